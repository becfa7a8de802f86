/-
  Seat b6277aF: rope.Of (R).
-/
import Derived.Test.YbulkdyyyFmtReg
import Derived.Test.YbulkdyyyFmtMakeR
namespace Go.Proofs.YbulkdyyyFmt.OfR
open Go.RowKit Go.Shelf Go.Sort Go.Proofs.YbulkdyyyFmt
set_option linter.unusedVariables false
set_option linter.unnecessarySimpa false
attribute [local go_sem] Oper.semAt_some
attribute [local go_sem] wide_fn wide_depth

theorem store_nilF (P : Program) (w : World) (a : Addr) (m : Mode) : (store a .nilFunc m).run P w = stored P w a .nilFunc m := run_store P w a _ m rfl
attribute [local go_sem] store_nilF

theorem infoI : (Ybaf.prog.info? 3).map (fun i => (i.zero, i.size, i.bytes)) = some (some (.int .i64 0), 1, 8) := by kernel_rfl
theorem infoP : (Ybaf.prog.info? 144).map (fun i => (i.zero, i.size, i.bytes)) = some (some (.pointer none), 1, 8) := by kernel_rfl

theorem src_int {w : World} {b x : Nat} (h : Blk w b #[.int .i64 x]) : ∀ j u, ([x].flatMap intCells)[j]? = some u → w.cell? ((⟨b, 0, none⟩ : Addr).add j) = some u := by
  intro j u hu
  rw [Addr.add_lit, h.cell, Nat.zero_add]
  simpa [intCells] using hu

set_option maxRecDepth 100000 in
set_option maxHeartbeats 4000000 in
theorem of_any (a : Option Addr) (n c : Nat) (vs : List Rn) (w : World) (hr : Row Rn.cells 2 w a n c vs) (hn : n ≤ 4096) :
    Calls Ybaf.prog 56 #[.slice a n c] w fun e w' => ∃ root fv, e = .returned (.agg #[.pointer root, .int .i64 n, .int .i64 0, fv]) ∧ RopeN Rn.cells 2 w.heap.size w' root vs ∧ Kept (fun _ => False) w w' := by
  rcases Nat.eq_zero_or_pos n with rfl | hpos
  · have hv : vs = [] := List.length_eq_zero_iff.1 hr.len
    subst hv
    clear hr
    refine (callsIn_wide (n := 3)).1 (callsIn_of_wp_marks Ybaf.func56 rfl trivial ?_ rfl)
    simp only [Ybaf.ntmps56, List.size_toArray, List.length_cons, List.length_nil, Nat.reduceAdd, Nat.reduceSub, Array.replicate_succ, Array.replicate_zero, List.push_toArray, List.append_toArray, List.nil_append, List.cons_append]
    gi_wp2
    refine ⟨_, results_cell_row rfl _ _ (w.heap.size + 1) 147 #[.pointer none, .int .i64 0, .int .i64 0, .nilFunc] (0, 0) _ rfl (by simpa using heap_alloc_new (w.alloc (.cells #[.slice a 0 c] 123)) _) Ybaf.underlying147 rfl (by kernel_rfl), ?_⟩
    exact ⟨none, .nilFunc, rfl, .inl ⟨rfl, rfl⟩, ((Kept.refl _ w).alloc _).alloc _⟩
  · obtain ⟨b1, o1, rfl⟩ := hr.some_of hpos
    obtain ⟨p, hp⟩ : ∃ p, partsOf n = p := ⟨_, rfl⟩
    have hp1 : 1 ≤ p := by unfold partsOf at hp; omega
    have hp2 : p ≤ 64 := by unfold partsOf at hp; omega
    obtain ⟨w2, hw2⟩ : ∃ w2, (w.alloc (.cells #[.slice (some ⟨b1, o1, none⟩) n c] 123)).alloc (.cells #[.pointer none, .int .i64 0, .int .i64 0, .nilFunc] 147) = w2 := ⟨_, rfl⟩
    have hk2 : Kept (fun _ => False) w w2 := by rw [← hw2]; exact ((Kept.refl _ w).alloc _).alloc _
    have hs2 : w2.heap.size = w.heap.size + 2 := by rw [← hw2]; simp
    have hb0 : Blk w2 w.heap.size #[.slice (some ⟨b1, o1, none⟩) n c] := by rw [← hw2]; exact (Blk.new w _ 123).alloc _
    have hb1 : Blk w2 (w.heap.size + 1) #[.pointer none, .int .i64 0, .int .i64 0, .nilFunc] := by rw [← hw2]; simpa using Blk.new (w.alloc (.cells #[.slice (some ⟨b1, o1, none⟩) n c] 123)) #[.pointer none, .int .i64 0, .int .i64 0, .nilFunc] 147
    obtain ⟨i0, hi0, hz0, hz1, hz2⟩ := info_parts infoP
    obtain ⟨w3, hmk, how, hgr⟩ := run_make_own (P := Ybaf.prog) (w := w2) w2.heap.size 167 144 i0 (.pointer none) 1 Ybaf.underlying167 hi0 hz0 hz1 .i64 .i64 p (by rw [hz2]; omega) (by unfold maxLen; omega) (Nat.le_refl _)
    have hmk' : (Instr.makeSlice 167 (.int .i64 0) (.int .i64 p)).run Ybaf.prog w2 = .ok (.slice (some ⟨w2.heap.size, 0, none⟩) 0 p) w3 := hmk
    have hk3 : Kept (fun _ => False) w2 w3 := (Kept.refl _ w2).grown hgr (fun k e => by cases e)
    have hr3 : Row ptrCells 1 w3 (some ⟨w2.heap.size, 0, none⟩) 0 p [] := MakeR.row_of_owns ptr_len (by omega) how (by omega) rfl
    have c0 : w2.cell? ⟨w.heap.size, 0, none⟩ = some (.slice (some ⟨b1, o1, none⟩) n c) := hb0.cell 0
    have c04 : ∀ o, (w3.alloc o).cell? ⟨w.heap.size, 0, none⟩ = some (.slice (some ⟨b1, o1, none⟩) n c) := fun o => cell_keptF ((Kept.refl _ w3).alloc o) (cell_keptF hk3 c0)
    rw [hs2] at hr3
    have HR : Hid (Row Rn.cells 2 w (some ⟨b1, o1, none⟩) n c vs) := hr
    have HK2 : Hid (Kept (fun _ => False) w w2) := hk2
    have HK3 : Hid (Kept (fun _ => False) w2 w3) := hk3
    have HB1 : Hid (Blk w2 (w.heap.size + 1) #[.pointer none, .int .i64 0, .int .i64 0, .nilFunc]) := hb1
    have HR3 : Hid (Row ptrCells 1 w3 (some ⟨w.heap.size + 2, 0, none⟩) 0 p []) := hr3
    have hpc := parts_any n (by omega) w2
    rw [hp] at hpc
    have HPC : Hid _ := hpc
    clear hmk how hgr hr hk2 hk3 hr3 hb0 hb1 hpc
    refine (callsIn_wide (n := 3)).1 (callsIn_of_wp_marks Ybaf.func56 rfl trivial ?_ rfl)
    simp only [Ybaf.ntmps56, List.size_toArray, List.length_cons, List.length_nil, Nat.reduceAdd, Nat.reduceSub, Array.replicate_succ, Array.replicate_zero, List.push_toArray, List.append_toArray, List.nil_append, List.cons_append]
    gi_wp2
    refine CallsIn.mono (callsIn_wide.2 HPC.out) ?_
    rintro e w' ⟨rfl, hh⟩
    rw [hh]
    clear hh w'
    gi_wp2
    refine CallsIn.mono (callsIn_wide.2 (ranges_any _ _)) ?_
    rintro e w'' ⟨rfl, rfl⟩
    gi_wp2
    obtain ⟨w4, hw4⟩ : ∃ w4, (w3.alloc (.cells #[.slice (some ⟨w.heap.size + 2, 0, none⟩) 0 p] 167)).alloc (.cells #[.int .i64 n] 3) = w4 := ⟨_, rfl⟩
    have hk4 : Kept (fun _ => False) w3 w4 := by rw [← hw4]; exact ((Kept.refl _ w3).alloc _).alloc _
    have hs4 : w4.heap.size = w3.heap.size + 2 := by rw [← hw4]; simp
    have y0 : Blk w4 w3.heap.size #[.slice (some ⟨w.heap.size + 2, 0, none⟩) 0 p] := by rw [← hw4]; exact (Blk.new w3 _ 167).alloc _
    have y1 : Blk w4 (w3.heap.size + 1) #[.int .i64 n] := by
      rw [← hw4]
      simpa using Blk.new (w3.alloc (.cells #[.slice (some ⟨w.heap.size + 2, 0, none⟩) 0 p] 167)) #[.int .i64 n] 3
    rw [hw4]
    clear hw4 c04
    have hs3 := HK3.out.size
    have hc04 : w4.cell? ⟨w.heap.size, 0, none⟩ = some (.slice (some ⟨b1, o1, none⟩) n c) := cell_keptF hk4 (cell_keptF HK3.out c0)
    have hr4 : Row Rn.cells 2 w4 (some ⟨b1, o1, none⟩) n c vs := HR.out.kept ((HK2.out.trans HK3.out).trans hk4) (fun _ _ => id)
    have hb1w : b1 < w.heap.size := HR.out.lt b1 rfl
    have hrow4 : Row ptrCells 1 w4 (some ⟨w.heap.size + 2, 0, none⟩) 0 p [] := HR3.out.kept hk4 (fun _ _ => id)
    have hrb3 : w.heap.size + 2 < w3.heap.size := HR3.out.lt _ rfl
    have hbq : boxBlk w4 w3.heap.size = some (w.heap.size + 2) := by unfold boxBlk; rw [y0.cell 0]; rfl
    have HY1 : Hid (Blk w4 (w3.heap.size + 1) #[.int .i64 n]) := y1
    have HR4 : Hid (Row Rn.cells 2 w4 (some ⟨b1, o1, none⟩) n c vs) := hr4
    have HK4 : Hid (Kept (fun _ => False) w3 w4) := hk4
    have HC04 : Hid (w4.cell? ⟨w.heap.size, 0, none⟩ = some (.slice (some ⟨b1, o1, none⟩) n c)) := hc04
    have hL0 : Lvl Rn.cells 2 w3.heap.size (w.heap.size + 2) p w4.heap.size w4 vs [] w4 [] := ⟨y0, hrow4, fun i b q e => by simp at e, Kb.refl _ _⟩
    clear y1 hr4 hk4 hc04 c0 hmk'
    refine rangeFunc_go (gf := 33) (lb := #[.pointer (some ⟨w3.heap.size + 1, 0, none⟩)]) rfl (enters_of Ybaf.func33 (by kernel_rfl) rfl) (encs := rgEnc) (fun _ => rfl) (fb := w3.heap.size)
      (ranges_iter (fb := w3.heap.size) (nb := w3.heap.size + 1) hpos hn) (by omega) ?pre
      (fun pre X => ∃ bs, Lvl Rn.cells 2 w3.heap.size (w.heap.size + 2) p w4.heap.size w4 vs pre X bs) (Lvl.steady (by omega)) (fun pre X k ⟨bs, h⟩ e => h.rows e) ⟨[], hL0⟩
      (fun x a1 X => a1 = { tmps := #[.slice (some ⟨b1, o1, none⟩) n c, .pointer (some ⟨w.heap.size, 0, none⟩), .pointer (some ⟨w.heap.size + 1, 0, none⟩), .pointer (some ⟨w3.heap.size, 0, none⟩), .int .i64 x.1, .int .i64 x.2, undef, undef, undef, undef, undef, undef, .slice (some ⟨b1, o1, none⟩) n c, .int .i64 n, .bool false, undef, .slice (some ⟨b1, o1, none⟩) n c, .int .i64 n, .int .i64 p, .slice (some ⟨w.heap.size + 2, 0, none⟩) 0 p, .slice (some ⟨b1, o1, none⟩) n c, .int .i64 n, .func (.func 33) #[] #[.pointer (some ⟨w3.heap.size + 1, 0, none⟩)], .int .i64 x.1, .int .i64 x.2, undef, undef, undef, undef, undef, undef, undef, undef, undef, undef, undef, undef, undef, undef, undef, undef, undef, undef, undef, undef, undef, undef, undef, undef, undef, undef, undef, undef, undef, undef, undef, undef, undef, undef, undef, undef, undef, undef, undef, undef, undef, undef, undef, undef, undef, undef, undef, undef, undef, undef, undef, undef, undef, undef, undef, undef, undef, undef], defers := [] }) ?ownA ?assign ?body ?done
    case pre =>
      intro o1 o2
      have hka : Kept (fun _ => False) w4 ((w4.alloc o1).alloc o2) := ((Kept.refl _ w4).alloc _).alloc _
      refine ⟨cell_keptF hka (HY1.out.cell 0), by omega, ?_⟩
      rw [boxBlk_eqv (hka.block _ (by omega) id), hbq]
      simp
      omega
    case ownA =>
      intro x a1
      exact ⟨fun _ X o h => h, fun _ X q h => h, fun _ X l r r' hl hr h => h, fun _ X l ds o hl hr h => h⟩
    case assign =>
      rintro l' pre x X m ⟨bs, h⟩ hpx
      simp only [rgEnc]
      have HL : Hid (Lvl Rn.cells 2 w3.heap.size (w.heap.size + 2) p w4.heap.size w4 vs pre X bs) := h
      clear h
      gi_wp2
      exact ⟨⟨bs, HL.out⟩, Kb.refl _ X, trivial⟩
    case body =>
      rintro l' pre x a1 X m ⟨bs, h⟩ rfl hpx
      rw [hp] at hpx
      obtain ⟨-, hlt, hx⟩ := ranges_at hpx
      rw [rangeAt_nat] at hx
      obtain ⟨q1, q2, q3⟩ := range_facts hp hpos hlt
      obtain ⟨L, hL⟩ : ∃ L, pre.length * n / p = L := ⟨_, rfl⟩
      obtain ⟨H, hH⟩ : ∃ H, (pre.length + 1) * n / p = H := ⟨_, rfl⟩
      rw [hL, hH] at hx q1 
      rw [hH] at q3
      rw [hL, hH] at q2
      have hkX := h.kb
      have z0 : X.cell? ⟨w.heap.size, 0, none⟩ = some (.slice (some ⟨b1, o1, none⟩) n c) := hkX.cell HC04.out (by simp; omega) (by rw [hbq]; simp)
      have z1 : X.cell? ⟨w3.heap.size, 0, none⟩ = some (.slice (some ⟨w.heap.size + 2, 0, none⟩) pre.length p) := h.box.cell 0
      have hrX : Row Rn.cells 2 X (some ⟨b1, o1, none⟩) n c vs := HR4.out.eqv (fun k e => by simp [blkOf] at e; subst e; exact hkX.eqv (by omega) (by omega) (by rw [hbq]; simp; omega))
      have hsub := hrX.sub rn_len (Nat.le_of_lt q1) q3
      have hcut : cutAt vs x = (vs.drop L).take (H - L) := by rw [hx]; simp [cutAt]
      rw [← hcut] at hsub
      subst hx
      have HSUB : Hid _ := hsub
      have HLV : Hid (Lvl Rn.cells 2 w3.heap.size (w.heap.size + 2) p w4.heap.size w4 vs pre X bs) := h
      have hcn := HR.out.le
      have hHc : H ≤ c := by omega
      have hLH : L ≤ H := by omega
      have hcL : ¬ c = L := by omega
      clear hsub hrX h hpx hL hH hcut hkX
      refine wpIn_block ?_
      refine region_round (fun w' => w'.cell? ⟨w.heap.size, 0, none⟩ = some (.slice (some ⟨b1, o1, none⟩) n c)) 9 rfl (by kernel_rfl) (by kernel_rfl) ?hL z0 (fun hH => ?_)
      case hL =>
        rintro ⟨_, _, h, _⟩
        cases h
      refine wpAnyH_takeD (i := 1) (d := 26) (v := .slice (some ⟨b1, o1, none⟩) n c) rfl rfl (by kernel_rfl) (by kernel_rfl) (by kernel_rfl) (fun _ _ _ h => h) rfl ?_ hH ?_
      · intro W hW
        go_simp
      simp only [List.setIfInBounds_toArray, List.set_cons_zero, List.set_cons_succ]
      refine wpAnyH_takeD (i := 2) (d := 27) (v := .int .i64 L) rfl rfl (by kernel_rfl) (by kernel_rfl) (by kernel_rfl) (fun _ _ _ h => h) rfl ?_ hH ?_
      · intro W hW
        go_simp
      simp only [List.setIfInBounds_toArray, List.set_cons_zero, List.set_cons_succ]
      refine wpAnyH_takeD (i := 3) (d := 28) (v := .int .i64 H) rfl rfl (by kernel_rfl) (by kernel_rfl) (by kernel_rfl) (fun _ _ _ h => h) rfl ?_ hH ?_
      · intro W hW
        go_simp
      simp only [List.setIfInBounds_toArray, List.set_cons_zero, List.set_cons_succ]
      refine wpAnyH_takeD (i := 4) (d := 29) (v := .slice (some ⟨b1, o1 + L * 2, none⟩) (H - L) (c - L)) rfl rfl (by kernel_rfl) (by kernel_rfl) (by kernel_rfl) (fun _ _ _ h => h) rfl ?_ hH ?_
      · intro W hW
        go_simp
      simp only [List.setIfInBounds_toArray, List.set_cons_zero, List.set_cons_succ]
      refine wpAnyH_ready (rs := [0, 5]) (by kernel_rfl) (by simp) ?_
      refine AllReadyH.cons rfl (fun K hK => ?_) (AllReadyH.cons rfl (fun K hK => ?_) (AllReadyH.nil))
      · go_simp
        refine hK.out _ _ hH (fun hH => ?_)
        clear hK K
        refine wpAnyH_ready (rs := [5]) (by kernel_rfl) (by simp) ?_
        refine AllReadyH.cons rfl (fun K hK => ?_) (AllReadyH.nil)
        refine step_call1 (by rfl) (.tmp 29) 71 123 (by rfl) (.slice (some ⟨b1, o1 + L * 2, none⟩) (H - L) (c - L)) (by rfl) (enters_of Ybaf.func71 (by kernel_rfl) rfl) (R := fun v w' => ∃ b, v = .pointer (some ⟨b, 0, none⟩) ∧ LeafIn Rn.cells 2 X.heap.size w' b (cutAt vs (↑L, ↑H)) ∧ Kept (fun _ => False) X w') ((MakeR.leaf_any _ _ _ _ X.drew (HSUB.out.eqv (fun _ _ => rfl)) (by omega) (by omega)).mono fun e w' ⟨b, he, hl, hk⟩ => ⟨_, he, b, rfl, hl, ⟨hk.os, hk.tape, hk.output, hk.size, hk.block⟩⟩) ?_
        rintro v X1 ⟨b, rfl, hleaf, hk1⟩
        have hb1 := HLV.out.box.kept hk1 id
        have z2 : X1.cell? ⟨w3.heap.size, 0, none⟩ = some (.slice (some ⟨w.heap.size + 2, 0, none⟩) pre.length p) := hb1.cell 0
        have z2f := hb1.free 0
        have z3 := cell_keptF hk1 z0
        have z4 : ∀ ob, (X1.alloc ob).cell? ⟨w3.heap.size, 0, none⟩ = some (.slice (some ⟨w.heap.size + 2, 0, none⟩) pre.length p) := fun ob => cell_keptF ((Kept.refl _ X1).alloc ob) z2
        have z5 : ∀ ob, (X1.alloc ob).cell? ⟨w.heap.size, 0, none⟩ = some (.slice (some ⟨b1, o1, none⟩) n c) := fun ob => cell_keptF ((Kept.refl _ X1).alloc ob) z3
        have HK1 : Hid (Kept (fun _ => False) X X1) := hk1
        have HLF : Hid (LeafIn Rn.cells 2 X.heap.size X1 b (cutAt vs (↑L, ↑H))) := hleaf
        clear hleaf hk1 hb1
        go_simp
        refine hK.out _ _ z3 (fun hH => ?_)
        clear hK K
        refine wpAnyH_ready (rs := [6]) (by kernel_rfl) (by simp) ?_
        refine AllReadyH.cons rfl (fun K hK => ?_) (AllReadyH.nil)
        go_simp
        refine hK.out _ _ (z5 _) (fun hH => ?_)
        clear hK K
        refine wpAnyH_ready (rs := [7]) (by kernel_rfl) (by simp) ?_
        refine AllReadyH.cons rfl (fun K hK => ?_) (AllReadyH.nil)
        refine step_append_room_row (by rfl) (.tmp 25) (.tmp 31) 167 (by rfl) ptr_len ptr_one 144 i0 (.pointer none) 8 Ybaf.underlying167 hi0 hz0 hz1 hz2 rfl (w.heap.size + 2) 0 pre.length p bs (by rfl) ((HLV.out.row.kept HK1.out (fun _ _ => id)).alloc _) ⟨X1.heap.size, 0, none⟩ 1 1 [b] (by rfl) rfl (src_ptr (Blk.new X1 _ _)) (by omega) (by omega) (by omega) ?_
        intro w5 hrow hgrow
        have hb5 := ((HLV.out.box.kept HK1.out id).alloc _).grown hgrow (fun e => by simp at e; omega)
        have v1 : w5.cell? ⟨w3.heap.size, 0, none⟩ = some (.slice (some ⟨w.heap.size + 2, 0, none⟩) pre.length p) := hb5.cell 0
        have v2 := hb5.free 0
        have v3 : w5.cell? ⟨w.heap.size, 0, none⟩ = some (.slice (some ⟨b1, o1, none⟩) n c) := by
          have hg := hgrow.block w.heap.size (World.block_lt_of_cell? _ _ (z5 _)) (fun e => by simp at e)
          rw [World.cell?_of_block (w := _) hg]
          exact z5 _
        have HST : Hid _ := lvl_step HLV.out rfl (by omega) (by omega) (by omega) HK1.out HLF.out hgrow hrow
        clear hrow hgrow hb5
        go_simp
        refine hK.out _ _ v3 (fun hH => ?_)
        clear hK K
        refine wpAnyH_ready (rs := [8]) (by kernel_rfl) (by simp) ?_
        refine AllReadyH.cons rfl (fun K hK => ?_) (AllReadyH.nil)
        go_simp
        refine hK.out _ _ ?_ (fun hH => ?_)
        · exact (World.cell?_setCell_far _ _ _ _ (by simp; omega)).trans v3
        clear hK K
        refine wpAnyH_done (by kernel_rfl) ?_ _
        exact ⟨rfl, ⟨_, HST.out.1⟩, HST.out.2⟩
      · refine step_call1 (by rfl) (.tmp 29) 71 123 (by rfl) (.slice (some ⟨b1, o1 + L * 2, none⟩) (H - L) (c - L)) (by rfl) (enters_of Ybaf.func71 (by kernel_rfl) rfl) (R := fun v w' => ∃ b, v = .pointer (some ⟨b, 0, none⟩) ∧ LeafIn Rn.cells 2 X.heap.size w' b (cutAt vs (↑L, ↑H)) ∧ Kept (fun _ => False) X w') ((MakeR.leaf_any _ _ _ _ X.drew (HSUB.out.eqv (fun _ _ => rfl)) (by omega) (by omega)).mono fun e w' ⟨b, he, hl, hk⟩ => ⟨_, he, b, rfl, hl, ⟨hk.os, hk.tape, hk.output, hk.size, hk.block⟩⟩) ?_
        rintro v X1 ⟨b, rfl, hleaf, hk1⟩
        have hb1 := HLV.out.box.kept hk1 id
        have z2 : X1.cell? ⟨w3.heap.size, 0, none⟩ = some (.slice (some ⟨w.heap.size + 2, 0, none⟩) pre.length p) := hb1.cell 0
        have z2f := hb1.free 0
        have z3 := cell_keptF hk1 z0
        have z4 : ∀ ob, (X1.alloc ob).cell? ⟨w3.heap.size, 0, none⟩ = some (.slice (some ⟨w.heap.size + 2, 0, none⟩) pre.length p) := fun ob => cell_keptF ((Kept.refl _ X1).alloc ob) z2
        have z5 : ∀ ob, (X1.alloc ob).cell? ⟨w.heap.size, 0, none⟩ = some (.slice (some ⟨b1, o1, none⟩) n c) := fun ob => cell_keptF ((Kept.refl _ X1).alloc ob) z3
        have HK1 : Hid (Kept (fun _ => False) X X1) := hk1
        have HLF : Hid (LeafIn Rn.cells 2 X.heap.size X1 b (cutAt vs (↑L, ↑H))) := hleaf
        clear hleaf hk1 hb1
        go_simp
        refine hK.out _ _ z3 (fun hH => ?_)
        clear hK K
        refine wpAnyH_ready (rs := [0, 6]) (by kernel_rfl) (by simp) ?_
        refine AllReadyH.cons rfl (fun K hK => ?_) (AllReadyH.cons rfl (fun K hK => ?_) (AllReadyH.nil))
        · go_simp
          refine hK.out _ _ hH (fun hH => ?_)
          clear hK K
          refine wpAnyH_ready (rs := [6]) (by kernel_rfl) (by simp) ?_
          refine AllReadyH.cons rfl (fun K hK => ?_) (AllReadyH.nil)
          go_simp
          refine hK.out _ _ (z5 _) (fun hH => ?_)
          clear hK K
          refine wpAnyH_ready (rs := [7]) (by kernel_rfl) (by simp) ?_
          refine AllReadyH.cons rfl (fun K hK => ?_) (AllReadyH.nil)
          refine step_append_room_row (by rfl) (.tmp 25) (.tmp 31) 167 (by rfl) ptr_len ptr_one 144 i0 (.pointer none) 8 Ybaf.underlying167 hi0 hz0 hz1 hz2 rfl (w.heap.size + 2) 0 pre.length p bs (by rfl) ((HLV.out.row.kept HK1.out (fun _ _ => id)).alloc _) ⟨X1.heap.size, 0, none⟩ 1 1 [b] (by rfl) rfl (src_ptr (Blk.new X1 _ _)) (by omega) (by omega) (by omega) ?_
          intro w5 hrow hgrow
          have hb5 := ((HLV.out.box.kept HK1.out id).alloc _).grown hgrow (fun e => by simp at e; omega)
          have v1 : w5.cell? ⟨w3.heap.size, 0, none⟩ = some (.slice (some ⟨w.heap.size + 2, 0, none⟩) pre.length p) := hb5.cell 0
          have v2 := hb5.free 0
          have v3 : w5.cell? ⟨w.heap.size, 0, none⟩ = some (.slice (some ⟨b1, o1, none⟩) n c) := by
            have hg := hgrow.block w.heap.size (World.block_lt_of_cell? _ _ (z5 _)) (fun e => by simp at e)
            rw [World.cell?_of_block (w := _) hg]
            exact z5 _
          have HST : Hid _ := lvl_step HLV.out rfl (by omega) (by omega) (by omega) HK1.out HLF.out hgrow hrow
          clear hrow hgrow hb5
          go_simp
          refine hK.out _ _ v3 (fun hH => ?_)
          clear hK K
          refine wpAnyH_ready (rs := [8]) (by kernel_rfl) (by simp) ?_
          refine AllReadyH.cons rfl (fun K hK => ?_) (AllReadyH.nil)
          go_simp
          refine hK.out _ _ ?_ (fun hH => ?_)
          · exact (World.cell?_setCell_far _ _ _ _ (by simp; omega)).trans v3
          clear hK K
          refine wpAnyH_done (by kernel_rfl) ?_ _
          exact ⟨rfl, ⟨_, HST.out.1⟩, HST.out.2⟩
        · go_simp
          refine hK.out _ _ (z5 _) (fun hH => ?_)
          clear hK K
          refine wpAnyH_ready (rs := [0]) (by kernel_rfl) (by simp) ?_
          refine AllReadyH.cons rfl (fun K hK => ?_) (AllReadyH.nil)
          go_simp
          refine hK.out _ _ hH (fun hH => ?_)
          clear hK K
          refine wpAnyH_ready (rs := [7]) (by kernel_rfl) (by simp) ?_
          refine AllReadyH.cons rfl (fun K hK => ?_) (AllReadyH.nil)
          refine step_append_room_row (by rfl) (.tmp 25) (.tmp 31) 167 (by rfl) ptr_len ptr_one 144 i0 (.pointer none) 8 Ybaf.underlying167 hi0 hz0 hz1 hz2 rfl (w.heap.size + 2) 0 pre.length p bs (by rfl) ((HLV.out.row.kept HK1.out (fun _ _ => id)).alloc _) ⟨X1.heap.size, 0, none⟩ 1 1 [b] (by rfl) rfl (src_ptr (Blk.new X1 _ _)) (by omega) (by omega) (by omega) ?_
          intro w5 hrow hgrow
          have hb5 := ((HLV.out.box.kept HK1.out id).alloc _).grown hgrow (fun e => by simp at e; omega)
          have v1 : w5.cell? ⟨w3.heap.size, 0, none⟩ = some (.slice (some ⟨w.heap.size + 2, 0, none⟩) pre.length p) := hb5.cell 0
          have v2 := hb5.free 0
          have v3 : w5.cell? ⟨w.heap.size, 0, none⟩ = some (.slice (some ⟨b1, o1, none⟩) n c) := by
            have hg := hgrow.block w.heap.size (World.block_lt_of_cell? _ _ (z5 _)) (fun e => by simp at e)
            rw [World.cell?_of_block (w := _) hg]
            exact z5 _
          have HST : Hid _ := lvl_step HLV.out rfl (by omega) (by omega) (by omega) HK1.out HLF.out hgrow hrow
          clear hrow hgrow hb5
          go_simp
          refine hK.out _ _ v3 (fun hH => ?_)
          clear hK K
          refine wpAnyH_ready (rs := [8]) (by kernel_rfl) (by simp) ?_
          refine AllReadyH.cons rfl (fun K hK => ?_) (AllReadyH.nil)
          go_simp
          refine hK.out _ _ ?_ (fun hH => ?_)
          · exact (World.cell?_setCell_far _ _ _ _ (by simp; omega)).trans v3
          clear hK K
          refine wpAnyH_done (by kernel_rfl) ?_ _
          exact ⟨rfl, ⟨_, HST.out.1⟩, HST.out.2⟩
    case done =>
      rintro D X hD ⟨bs, h⟩ hkX hdef
      rw [hp] at h
      have hrl : (rangesOf n p).length = p := by simp [rangesOf]
      have hbl := h.row.len
      have z0 : X.cell? ⟨w.heap.size, 0, none⟩ = some (.slice (some ⟨b1, o1, none⟩) n c) := hkX.cell HC04.out (by simp; omega) (by rw [hbq]; simp)
      have z1 : X.cell? ⟨w3.heap.size, 0, none⟩ = some (.slice (some ⟨w.heap.size + 2, 0, none⟩) p p) := by have := h.box.cell 0; rw [hrl] at this; exact this
      have hbr : Blk X (w.heap.size + 1) #[.pointer none, .int .i64 0, .int .i64 0, .nilFunc] := ((HB1.out.kept HK3.out id).kept HK4.out id).eqv (hkX.eqv (by omega) (by omega) (by rw [hbq]; simp))
      have HLV : Hid (Lvl Rn.cells 2 w3.heap.size (w.heap.size + 2) p w4.heap.size w4 vs (rangesOf n p) X bs) := h
      have HBR : Hid (Blk X (w.heap.size + 1) #[.pointer none, .int .i64 0, .int .i64 0, .nilFunc]) := hbr
      have HKX : Hid (Kb w3.heap.size w4 X) := hkX
      have HDEF : Hid (X.heap[D]? = some (.deferred (some []))) := hdef
      clear h hkX hbr hdef hL0 y0 hrow4
      have hrb : ∀ j b, bs[j]? = some b → X.cell? ⟨w.heap.size + 2, j, none⟩ = some (.pointer (some ⟨b, 0, none⟩)) := fun j b e => by
        have := HLV.out.row.cell ptr_len e 0 (by omega)
        simpa [ptrCells] using this
      have HRB : Hid _ := hrb
      clear hrb
      gi_wp2
      rcases Nat.lt_or_ge p 2 with hp3 | hp3
      · obtain rfl : p = 1 := by omega
        obtain ⟨b, rfl⟩ : ∃ b, bs = [b] := List.length_eq_one_iff.1 (hbl.trans hrl)
        have z3 := HRB.out 0 b rfl
        refine wpIn_loop_rounds 1 ?_
        rw [roundsIn_succ]
        gi_wp2
        have r0 : X.cell? ⟨w.heap.size + 1, 0, none⟩ = some (.pointer none) := HBR.out.cell 0
        have r1 : X.cell? ⟨w.heap.size + 1, 1, none⟩ = some (.int .i64 0) := HBR.out.cell 1
        have r2 : X.cell? ⟨w.heap.size + 1, 2, none⟩ = some (.int .i64 0) := HBR.out.cell 2
        have r3 : X.cell? ⟨w.heap.size + 1, 3, none⟩ = some .nilFunc := HBR.out.cell 3
        have rf0 := HBR.out.free 0
        have rf1 := HBR.out.free 1
        have rf2 := HBR.out.free 2
        have rf3 := HBR.out.free 3
        have hn3 : w.heap.size + 1 ≠ w3.heap.size := by omega
        refine wpIn_wide.2 ?_
        go_region_held3 (fun w' => w'.cell? ⟨w.heap.size, 0, none⟩ = some (.slice (some ⟨b1, o1, none⟩) n c) ∧ w'.cell? ⟨w3.heap.size, 0, none⟩ = some (.slice (some ⟨w.heap.size + 2, 0, none⟩) 1 1) ∧ w'.cell? ⟨w.heap.size + 2, 0, none⟩ = some (.pointer (some ⟨b, 0, none⟩))) (go_keep) (fail)
        clear r0 r1 r2 r3 rf0 rf1 rf2 rf3 z0 z1 z3
        obtain ⟨hY1, hY2⟩ := set4 HBR.out (.pointer (some ⟨b, 0, none⟩)) (.int .i64 n) (.int .i64 0) .nilFunc
        generalize (((((X.setCell ⟨w.heap.size + 1, 0, none⟩ (.pointer (some ⟨b, 0, none⟩))).setCell ⟨w.heap.size + 1, 1, none⟩ (.int .i64 n)).setCell ⟨w.heap.size + 1, 2, none⟩ (.int .i64 0)).setCell ⟨w.heap.size + 1, 3, none⟩ .nilFunc).drew) = Y at hY1 hY2 ⊢
        gi_wp2
        have hrope : RopeP Rn.cells 2 (fun k => w4.heap.size ≤ k) X b vs := by
          refine .inl ⟨fun e => by have := HR.out.len; rw [e] at this; simp at this; omega, ?_⟩
          have := HLV.out.leaves 0 b (rangeAt n 1 0) rfl rfl
          rw [cutAt_all vs n HR.out.len] at this
          exact this.toP
        have hropeY := hrope.eqv (w' := Y) (fun k hc hl => hY2.block k hl (by omega))
        have hDl : D < X.heap.size := (Array.getElem?_eq_some_iff.1 HDEF.out).1
        have hdefY : Y.heap[D]? = some (.deferred (some [])) := (hY2.block D hDl (by omega)).trans HDEF.out
        refine ⟨by simp, .inl ⟨_, _, rfl, run_takeDeferred hdefY, ?_⟩⟩
        obtain ⟨ey, hYe⟩ := hY1
        refine ⟨_, results_cell_row rfl _ _ (w.heap.size + 1) ey _ (0, 0) _ rfl ((World.putObj_heap_other (by omega)).trans hYe) Ybaf.underlying147 rfl (by kernel_rfl), ?_⟩
        refine ⟨_, _, rfl, (.inr ⟨b, rfl, (hropeY.putN hdefY (fun _ _ _ e => by cases e)).mono (fun k hk _ => by omega)⟩), ?_⟩
        have k24 := (HK2.out.trans HK3.out).trans HK4.out
        have kx := HKX.out
        have hk2s := HK2.out.size
        refine ⟨(hY2.os.trans kx.os).trans k24.os, (hY2.tape.trans kx.tape).trans k24.tape, (hY2.output.trans kx.output).trans k24.output, ?_, fun k hk _ => ?_⟩
        · have := hY2.size
          have := kx.size
          simp
          omega
        · exact (((World.putObj_heap_other (by omega)).trans (hY2.block k (by have := kx.size; omega) (by omega))).trans (kx.eqv (by omega) (by omega) (by rw [hbq]; simp; omega))).trans (k24.block k hk id)
      · have hparts : partsOf p = 1 := by unfold partsOf; omega
        have hpc2 := parts_any p (by omega) X
        rw [hparts] at hpc2
        have HPC2 : Hid _ := hpc2
        have hmk2 : ∀ W, (Instr.makeSlice 167 (.int .i64 0) (.int .i64 1)).run Ybaf.prog W = .ok (.slice (some ⟨W.heap.size, 0, none⟩) 0 1) (W.alloc (.cells (madeCells #[.pointer none] 1) 144)) := fun W => (run_made0 (P := Ybaf.prog) ptr_len (by omega) 167 144 (.pointer none) 8 Ybaf.underlying167 infoP .i64 .i64 1 (by omega) (by omega) W).1
        have hkx1 : ∀ o, Kept (fun _ => False) X (X.alloc o) := fun o => (Kept.refl _ X).alloc o
        have z1a : ∀ o, (X.alloc o).cell? ⟨w3.heap.size, 0, none⟩ = some (.slice (some ⟨w.heap.size + 2, 0, none⟩) p p) := fun o => cell_keptF (hkx1 o) z1
        have z1b : ∀ o o', ((X.alloc o).alloc o').cell? ⟨w3.heap.size, 0, none⟩ = some (.slice (some ⟨w.heap.size + 2, 0, none⟩) p p) := fun o o' => cell_keptF ((hkx1 o).alloc o') z1
        have hgt : decide ((p : Int) > 1) = true := by simp; omega
        have hgt2 : (1 : Int) < p := by omega
        clear hpc2 hkx1
        refine wpIn_loop_rounds 2 ?_
        rw [roundsIn_succ]
        gi_wp2
        refine CallsIn.mono (callsIn_wide.2 HPC2.out) ?_
        rintro e w' ⟨rfl, hh⟩
        rw [hh]
        clear hh w'
        gi_wp2
        refine CallsIn.mono (callsIn_wide.2 (ranges_any _ _)) ?_
        rintro e w'' ⟨rfl, rfl⟩
        gi_wp2
        obtain ⟨w6, hw6⟩ : ∃ w6, ((X.alloc (.cells (madeCells #[.pointer none] 1) 144)).alloc (.cells #[.slice (some ⟨X.heap.size, 0, none⟩) 0 1] 167)).alloc (.cells #[.int .i64 p] 3) = w6 := ⟨_, rfl⟩
        have hk6 : Kept (fun _ => False) X w6 := by rw [← hw6]; exact (((Kept.refl _ X).alloc _).alloc _).alloc _
        have hs6 : w6.heap.size = X.heap.size + 3 := by rw [← hw6]; simp
        have y6 : Row ptrCells 1 w6 (some ⟨X.heap.size, 0, none⟩) 0 1 [] := by
          rw [← hw6]
          exact (((run_made0 (P := Ybaf.prog) ptr_len (by omega) 167 144 (.pointer none) 8 Ybaf.underlying167 infoP .i64 .i64 1 (by omega) (by omega) X).2).alloc _).alloc _
        have y7 : Blk w6 (X.heap.size + 1) #[.slice (some ⟨X.heap.size, 0, none⟩) 0 1] := by
          rw [← hw6]
          have := (Blk.new (X.alloc (.cells (madeCells #[.pointer none] 1) 144)) #[.slice (some ⟨X.heap.size, 0, none⟩) 0 1] 167).alloc (.cells #[.int .i64 p] 3)
          simpa using this
        have y8 : Blk w6 (X.heap.size + 2) #[.int .i64 p] := by
          rw [← hw6]
          have := Blk.new ((X.alloc (.cells (madeCells #[.pointer none] 1) 144)).alloc (.cells #[.slice (some ⟨X.heap.size, 0, none⟩) 0 1] 167)) #[.int .i64 p] 3
          simpa using this
        rw [hw6]
        clear hw6 z1a z1b
        have hbq6 : boxBlk w6 (X.heap.size + 1) = some X.heap.size := by unfold boxBlk; rw [y7.cell 0]; rfl
        have HY8 : Hid (Blk w6 (X.heap.size + 2) #[.int .i64 p]) := y8
        have HK6 : Hid (Kept (fun _ => False) X w6) := hk6
        have hU0 : UpI Rn.cells 2 (X.heap.size + 1) X.heap.size (fun k => (w4.heap.size ≤ k ∧ k < X.heap.size) ∨ w6.heap.size ≤ k) w6 ((rangesOf n p).map (cutAt vs)) [] w6 [] := ⟨y7, y6, fun b e => by simp at e, Kb.refl _ _⟩
        have HMK : Hid _ := hmk2
        clear y6 y7 y8 hk6 hmk2
        refine rangeFunc_go (gf := 33) (lb := #[.pointer (some ⟨X.heap.size + 2, 0, none⟩)]) rfl (enters_of Ybaf.func33 (by kernel_rfl) rfl) (encs := rgEnc) (fun _ => rfl) (fb := X.heap.size + 1)
          (ranges_iter (fb := X.heap.size + 1) (nb := X.heap.size + 2) (n := p) (by omega) (by omega)) (by omega) ?pre
          (fun pre Y => ∃ us, UpI Rn.cells 2 (X.heap.size + 1) X.heap.size (fun k => (w4.heap.size ≤ k ∧ k < X.heap.size) ∨ w6.heap.size ≤ k) w6 ((rangesOf n p).map (cutAt vs)) pre Y us) (UpI.steady (by omega)) (fun pre Y k ⟨us, h⟩ e => h.rows e) ⟨[], hU0⟩
          (fun x a1 Y => a1 = { tmps := #[.slice (some ⟨b1, o1, none⟩) n c, .pointer (some ⟨w.heap.size, 0, none⟩), .pointer (some ⟨w.heap.size + 1, 0, none⟩), .pointer (some ⟨w3.heap.size, 0, none⟩), undef, undef, .pointer (some ⟨X.heap.size + 1, 0, none⟩), .int .i64 x.1, .int .i64 x.2, undef, undef, undef, .slice (some ⟨b1, o1, none⟩) n c, .int .i64 n, .bool false, undef, .slice (some ⟨b1, o1, none⟩) n c, .int .i64 n, .int .i64 p, .slice (some ⟨w.heap.size + 2, 0, none⟩) 0 p, .slice (some ⟨b1, o1, none⟩) n c, .int .i64 n, .func (.func 33) #[] #[.pointer (some ⟨w3.heap.size + 1, 0, none⟩)], undef, undef, undef, undef, undef, undef, undef, undef, undef, undef, .slice (some ⟨w.heap.size + 2, 0, none⟩) p p, .int .i64 p, .bool true, .slice (some ⟨w.heap.size + 2, 0, none⟩) p p, .int .i64 p, .int .i64 1, .slice (some ⟨X.heap.size, 0, none⟩) 0 1, .slice (some ⟨w.heap.size + 2, 0, none⟩) p p, .int .i64 p, .func (.func 33) #[] #[.pointer (some ⟨X.heap.size + 2, 0, none⟩)], .int .i64 x.1, .int .i64 x.2, undef, undef, undef, undef, undef, undef, undef, undef, undef, undef, undef, undef, undef, undef, undef, undef, undef, undef, undef, undef, undef, undef, undef, undef, undef, undef, undef, undef, undef, undef, undef, undef, undef, undef, undef, undef, undef, undef], defers := [] }) ?ownA ?assign ?body ?done
        case pre =>
          intro o1 o2
          have hka : Kept (fun _ => False) w6 ((w6.alloc o1).alloc o2) := ((Kept.refl _ w6).alloc _).alloc _
          refine ⟨cell_keptF hka (HY8.out.cell 0), by omega, ?_⟩
          rw [boxBlk_eqv (hka.block _ (by omega) id), hbq6]
          simp
        case ownA =>
          intro x a1
          exact ⟨fun _ X o h => h, fun _ X q h => h, fun _ X l r r' hl hr h => h, fun _ X l ds o hl hr h => h⟩
        case assign =>
          rintro l' pre x Y m ⟨us, h⟩ hpx
          simp only [rgEnc]
          have HL : Hid (UpI Rn.cells 2 (X.heap.size + 1) X.heap.size (fun k => (w4.heap.size ≤ k ∧ k < X.heap.size) ∨ w6.heap.size ≤ k) w6 ((rangesOf n p).map (cutAt vs)) pre Y us) := h
          clear h
          gi_wp2
          exact ⟨⟨us, HL.out⟩, Kb.refl _ Y, trivial⟩
        case body =>
          rintro l' pre x a1 Z m ⟨us, h⟩ rfl hpx
          rw [hparts] at hpx
          obtain ⟨rfl, rfl⟩ := ranges_one hpx
          have hkZ := h.kb
          have hZs := hkZ.size
          have hus : us = [] := List.length_eq_zero_iff.1 h.row.len
          subst hus
          have hDX := HLV.out.kb.size
          have heq : ∀ k, k < X.heap.size → Z.heap[k]? = X.heap[k]? := fun k hk => (hkZ.eqv (by omega) (by omega) (by rw [hbq6]; simp; omega)).trans (HK6.out.block k hk id)
          have zz1 : Z.cell? ⟨w3.heap.size, 0, none⟩ = some (.slice (some ⟨w.heap.size + 2, 0, none⟩) p p) := by
            rw [World.cell?_of_block (w := X) (heq w3.heap.size (by omega))]
            exact z1
          have hrow := HLV.out.row
          rw [hrl] at hrow
          have hrZ : Row ptrCells 1 Z (some ⟨w.heap.size + 2, 0, none⟩) p p bs := hrow.eqv (fun k e => by simp [blkOf] at e; subst e; exact heq _ (by omega))
          have hvl : ((rangesOf n p).map (cutAt vs)).length = p := by simp [rangesOf]
          have hlf : ∀ (i b' : Nat) (us : List Rn), bs[i]? = some b' → ((rangesOf n p).map (cutAt vs))[i]? = some us → LeafP Rn.cells 2 (fun k => w4.heap.size ≤ k ∧ k < X.heap.size) Z b' us := fun i b' us e1 e2 => by
            rw [List.getElem?_map] at e2
            obtain ⟨q, hq, rfl⟩ := Option.map_eq_some_iff.1 e2
            exact ((HLV.out.leaves i b' q e1 hq).toP.mono (C' := fun k => w4.heap.size ≤ k ∧ k < X.heap.size) (fun k h1 h2 => ⟨h1, h2⟩)).eqv (fun k hc _ => heq k hc.2)
          have hvne : ∀ us ∈ (rangesOf n p).map (cutAt vs), us ≠ [] := by
            intro us hus
            simp only [rangesOf, List.map_map, List.mem_map, List.mem_range] at hus
            obtain ⟨k, hk, rfl⟩ := hus
            obtain ⟨q1, q2, q3⟩ := range_facts hp hpos hk
            have hvsl := HR.out.len
            intro hh
            have hhl := congrArg List.length hh
            simp only [Function.comp_apply, cutAt, rangeAt_nat, Int.toNat_natCast, List.length_take, List.length_drop, List.length_nil] at hhl
            omega
          obtain ⟨vss, hvss⟩ : ∃ vss, (rangesOf n p).map (cutAt vs) = vss := ⟨_, rfl⟩
          rw [hvss] at h hvl hlf hvne ⊢
          have HUP : Hid (UpI Rn.cells 2 (X.heap.size + 1) X.heap.size (fun k => (w4.heap.size ≤ k ∧ k < X.heap.size) ∨ w6.heap.size ≤ k) w6 vss [] Z []) := h
          have HRZ : Hid (Row ptrCells 1 Z (some ⟨w.heap.size + 2, 0, none⟩) p p bs) := hrZ
          have HLF : Hid (∀ (i b' : Nat) (us : List Rn), bs[i]? = some b' → vss[i]? = some us → LeafP Rn.cells 2 (fun k => w4.heap.size ≤ k ∧ k < X.heap.size) Z b' us) := hlf
          have HVN : Hid (∀ us ∈ vss, us ≠ []) := hvne
          have hmkI : ∀ W, (Instr.makeSlice 22 (.int .i64 0) (.int .i64 p)).run Ybaf.prog W = .ok (.slice (some ⟨W.heap.size, 0, none⟩) 0 p) (W.alloc (.cells (madeCells #[.int .i64 0] (p * 1)) 3)) := fun W => (run_made0 (P := Ybaf.prog) int_len (by omega) 22 3 (.int .i64 0) 8 Ybaf.underlying22 infoI .i64 .i64 p (by omega) (by omega) W).1
          have hwp : IntKind.i64.wrap (p : Int) = p := w64 (by omega) (by omega)
          have zza : ∀ o, (Z.alloc o).cell? ⟨w3.heap.size, 0, none⟩ = some (.slice (some ⟨w.heap.size + 2, 0, none⟩) p p) := fun o => cell_keptF ((Kept.refl _ Z).alloc o) zz1
          have hp0 : ¬ p = 0 := by omega
          clear h hkZ heq hrow hrZ hlf hvne hpx hU0
          gi_wp2
          obtain ⟨i1, hi1, hy0, hy1, hy2⟩ := info_parts infoI
          have hz1r : Row intCells 1 (Z.alloc (.cells (madeCells #[.int .i64 0] p) 3)) (some ⟨Z.heap.size, 0, none⟩) 0 p [] := by
            have := (run_made0 (P := Ybaf.prog) int_len (by omega) 22 3 (.int .i64 0) 8 Ybaf.underlying22 infoI .i64 .i64 p (by omega) (by omega) Z).2
            rw [Nat.mul_one] at this
            exact this
          have hbsl : bs.length = p := hbl.trans hrl
          have hml : (vss.map List.length).length = p := by simpa using hvl
          gi_loopw [9, 54] (fun v i wr => ∃ (k : Nat) (a : Option Addr) (cc : Nat), k ≤ p ∧ i = .int .i64 k ∧ v = .slice a k cc ∧ Hid (Row intCells 1 wr a k cc ((vss.map List.length).take k) ∧ (∀ b, blkOf a = some b → Z.heap.size ≤ b) ∧ Kept (fun _ => False) Z wr)) (fun _ i _ => p - (intOf i).toNat)
          case atStart => exact ⟨0, _, p, Nat.zero_le _, rfl, rfl, hz1r, fun b e => by simp [blkOf] at e; omega, (Kept.refl _ Z).alloc _⟩
          case round =>
            clear hz1r
            obtain ⟨k, sa, cc, hkp, rfl, rfl, HI⟩ := hrel
            by_cases hlt : k < p
            · obtain ⟨bl, hbk⟩ : ∃ bl, bs[k]? = some bl := ⟨bs[k]'(by omega), by simp⟩
              obtain ⟨us, hvk⟩ : ∃ us, vss[k]? = some us := ⟨vss[k]'(by omega), by simp⟩
              have hlk : (vss.map List.length)[k]? = some us.length := by rw [List.getElem?_map, hvk]; rfl
              have q0 := (HRZ.out.kept HI.out.2.2 (fun _ _ => id)).cell ptr_len hbk 0 (by omega)
              simp only [ptrCells, List.getElem?_cons_zero, Nat.add_zero, Nat.mul_one, Nat.zero_add] at q0
              have hleaf := ((HLF.out k bl us hbk hvk).kept HI.out.2.2 (fun _ _ => id)).leaf
              have HLS : Hid _ := MakeR.size_any _ bl us _ hleaf
              have HLK : Hid ((vss.map List.length)[k]? = some us.length) := hlk
              have kk : (k : Int) < (p : Int) := by omega
              have hrk := HI.out.1
              have HRK : Hid (Row intCells 1 wr sa k cc ((vss.map List.length).take k)) := hrk
              clear hbk hvk hlk hleaf hrk
              gi_wp2
              refine CallsIn.mono (CallsIn.inRound _ (callsIn_wide.2 HLS.out)) ?_
              rintro e w' ⟨rfl, hh⟩
              rw [hh]
              clear hh w'
              gi_wp2_with (gi_at_builtin; refine wpListIn_append_row _ rfl (.tmp 58) (.tmp 61) 22 rfl int_len int_one 3 i1 (.int .i64 0) 8 Ybaf.underlying22 hi1 hy0 hy1 hy2 rfl sa k cc ((vss.map List.length).take k) rfl (HRK.out.alloc _) ⟨wr.heap.size, 0, none⟩ 1 1 [us.length] rfl rfl (src_int (Blk.new wr _ _)) (by omega) (by omega) ?_; intro a5 c5 w5 hrow hgrow hnew hnone; have HR5 : Hid _ := hrow; have HG5 : Hid _ := hgrow; have HW5 : Hid _ := hnew; clear hrow hgrow hnew hnone)
              go_roundw
              case rel =>
                refine ⟨k + 1, a5, c5, by omega, by go_num, rfl, ?_, ?_, ?_⟩
                · rw [take_snoc HLK.out]
                  exact HR5.out
                · intro b e
                  have hkz := HI.out.2.2.size
                  rcases HW5.out b e with h | h
                  · exact HI.out.2.1 b h
                  · simp at h
                    omega
                · have hkk := HI.out.2.2.alloc (.cells #[.int .i64 us.length] 3)
                  have hg := HG5.out
                  exact ⟨hg.os.trans hkk.os, hg.tape.trans hkk.tape, hg.output.trans hkk.output, Nat.le_trans hkk.size hg.size, fun q hq _ => (hg.block q (Nat.lt_of_lt_of_le hq hkk.size) (fun e => by have := HI.out.2.1 q e.symm; omega)).trans (hkk.block q hq id)⟩
              case measure => simp [intOf]; omega
            · obtain rfl : p = k := by omega
              gi_wp2
              have hkW := HI.out.2.2
              have hkWs := hkW.size
              have x1 := cell_keptF hkW zz1
              have x0 : wr.cell? ⟨X.heap.size + 1, 0, none⟩ = some (.slice (some ⟨X.heap.size, 0, none⟩) 0 1) := (HUP.out.box.kept hkW id).cell 0
              have xa0 : ∀ o, (wr.drew.alloc o).cell? ⟨X.heap.size + 1, 0, none⟩ = some (.slice (some ⟨X.heap.size, 0, none⟩) 0 1) := fun o => cell_keptF ((Kept.refl _ wr.drew).alloc o) x0
              have xa1 : ∀ o, (wr.alloc o).cell? ⟨X.heap.size + 1, 0, none⟩ = some (.slice (some ⟨X.heap.size, 0, none⟩) 0 1) := fun o => cell_keptF ((Kept.refl _ wr).alloc o) x0
              have za : ∀ o, (wr.drew.alloc o).cell? ⟨w3.heap.size, 0, none⟩ = some (.slice (some ⟨w.heap.size + 2, 0, none⟩) p p) := fun o => cell_keptF ((Kept.refl _ wr.drew).alloc o) x1
              have hmkN : ∀ W, (Instr.makeSlice 22 (.int .i64 p) (.int .i64 p)).run Ybaf.prog W = .ok (.slice (some ⟨W.heap.size, 0, none⟩) p p) (W.alloc (.cells (madeCells #[.int .i64 0] p) 3)) := fun W => by
                have := (run_made (P := Ybaf.prog) (f := intCells) 0 int_len (by omega) 22 3 (.int .i64 0) 8 Ybaf.underlying22 infoI rfl .i64 .i64 p (by omega) (by omega) W).1
                rwa [Nat.mul_one] at this
              have hcall : Calls Ybaf.prog 73 #[.slice (some ⟨w.heap.size + 2, 0, none⟩) p p, .slice sa p cc, .slice (some ⟨wr.heap.size, 0, none⟩) p p] (wr.drew.alloc (.cells (madeCells #[.int .i64 0] p) 3)) fun e w' => ∃ v, e = .returned v ∧ ∃ b, v = .pointer (some ⟨b, 0, none⟩) ∧ InnerP Rn.cells 2 (fun k => (w4.heap.size ≤ k ∧ k < X.heap.size) ∨ w6.heap.size ≤ k) w' b vss ∧ Kept (fun _ => False) Z w' := by
                have hkA : Kept (fun _ => False) Z (wr.drew.alloc (.cells (madeCells #[.int .i64 0] p) 3)) := hkW.drew.alloc _
                have r1 := HRZ.out.kept hkA (fun _ _ => id)
                have r2 := (HI.out.1.eqv (w' := wr.drew) (fun _ _ => rfl)).alloc (.cells (madeCells #[.int .i64 0] p) 3)
                rw [List.take_of_length_le (by omega)] at r2
                have r3 := (run_made (P := Ybaf.prog) (f := intCells) 0 int_len (by omega) 22 3 (.int .i64 0) 8 Ybaf.underlying22 infoI rfl .i64 .i64 p (by omega) (by omega) wr.drew).2
                rw [Nat.mul_one] at r3
                have hss := hkA.size
                refine (MakeR.inner_any (fun k => w4.heap.size ≤ k ∧ k < X.heap.size) _ _ _ p p cc p bs _ vss _ r1 r2 r3 (by omega) hp2 hvl HVN.out (fun i b' us e1 e2 => (HLF.out i b' us e1 e2).kept hkA (fun _ _ => id))).mono ?_
                rintro e w' ⟨b, rfl, hin, hk⟩
                refine ⟨_, rfl, b, rfl, ?_, hkA.trans hk⟩
                refine hin.mono (fun k hc _ => ?_)
                rcases hc with hc | hc
                · exact .inl hc
                · exact .inr (by omega)
              have HCALL : Hid _ := hcall
              have hpp : ¬ p = 0 := by omega
              clear hcall
              refine region_round (fun w' => w'.cell? ⟨w3.heap.size, 0, none⟩ = some (.slice (some ⟨w.heap.size + 2, 0, none⟩) p p)) 13 rfl (by kernel_rfl) (by kernel_rfl) ?hL x1 (fun hH => ?_)
              case hL =>
                rintro ⟨_, _, h, _⟩
                cases h
              refine wpAnyH_takeD (i := 1) (d := 65) (v := .slice (some ⟨w.heap.size + 2, 0, none⟩) p p) rfl rfl (by kernel_rfl) (by kernel_rfl) (by kernel_rfl) (fun _ _ _ h => h) rfl ?_ hH ?_
              · intro W hW
                go_simp
              simp only [List.setIfInBounds_toArray, List.set_cons_zero, List.set_cons_succ]
              refine wpAnyH_takeD (i := 2) (d := 66) (v := .int .i64 0) rfl rfl (by kernel_rfl) (by kernel_rfl) (by kernel_rfl) (fun _ _ _ h => h) rfl ?_ hH ?_
              · intro W hW
                go_simp
              simp only [List.setIfInBounds_toArray, List.set_cons_zero, List.set_cons_succ]
              refine wpAnyH_takeD (i := 3) (d := 67) (v := .int .i64 p) rfl rfl (by kernel_rfl) (by kernel_rfl) (by kernel_rfl) (fun _ _ _ h => h) rfl ?_ hH ?_
              · intro W hW
                go_simp
              simp only [List.setIfInBounds_toArray, List.set_cons_zero, List.set_cons_succ]
              refine wpAnyH_takeD (i := 4) (d := 68) (v := .slice (some ⟨w.heap.size + 2, 0, none⟩) p p) rfl rfl (by kernel_rfl) (by kernel_rfl) (by kernel_rfl) (fun _ _ _ h => h) rfl ?_ hH ?_
              · intro W hW
                go_simp
              simp only [List.setIfInBounds_toArray, List.set_cons_zero, List.set_cons_succ]
              refine wpAnyH_takeD (i := 5) (d := 69) (v := .slice sa p cc) rfl rfl (by kernel_rfl) (by kernel_rfl) (by kernel_rfl) (fun _ _ _ h => h) rfl ?_ hH ?_
              · intro W hW
                go_simp
              simp only [List.setIfInBounds_toArray, List.set_cons_zero, List.set_cons_succ]
              refine wpAnyH_takeD (i := 6) (d := 70) (v := .slice sa p cc) rfl rfl (by kernel_rfl) (by kernel_rfl) (by kernel_rfl) (fun _ _ _ h => h) rfl ?_ hH ?_
              · intro W hW
                go_simp
              simp only [List.setIfInBounds_toArray, List.set_cons_zero, List.set_cons_succ]
              refine wpAnyH_takeD (i := 7) (d := 71) (v := .int .i64 p) rfl rfl (by kernel_rfl) (by kernel_rfl) (by kernel_rfl) (fun _ _ _ h => h) rfl ?_ hH ?_
              · intro W hW
                go_simp
              simp only [List.setIfInBounds_toArray, List.set_cons_zero, List.set_cons_succ]
              refine wpAnyH_ready (rs := [0, 8]) (by kernel_rfl) (by simp) ?_
              refine AllReadyH.cons rfl (fun K hK => ?_) (AllReadyH.cons rfl (fun K hK => ?_) (AllReadyH.nil))
              · go_simp
                refine hK.out _ _ hH (fun hH => ?_)
                clear hK K
                refine wpAnyH_ready (rs := [8]) (by kernel_rfl) (by simp) ?_
                refine AllReadyH.cons rfl (fun K hK => ?_) (AllReadyH.nil)
                go_simp
                refine hK.out _ _ (za _) (fun hH => ?_)
                clear hK K
                refine wpAnyH_ready (rs := [9]) (by kernel_rfl) (by simp) ?_
                refine AllReadyH.cons rfl (fun K hK => ?_) (AllReadyH.nil)
                refine step_call3 (by rfl) (.tmp 68) (.tmp 69) (.tmp 72) 73 167 22 22 (by rfl) _ _ _ (by rfl) (by rfl) (by rfl) (enters_of Ybaf.func73 (by kernel_rfl) rfl) HCALL.out ?_
                rintro v X1 ⟨b, rfl, hin, hk1⟩
                have hb1 := HUP.out.box.kept hk1 id
                have y2 : X1.cell? ⟨X.heap.size + 1, 0, none⟩ = some (.slice (some ⟨X.heap.size, 0, none⟩) 0 1) := hb1.cell 0
                have y2f := hb1.free 0
                have y3 := cell_keptF hk1 zz1
                have y4 : ∀ ob, (X1.alloc ob).cell? ⟨X.heap.size + 1, 0, none⟩ = some (.slice (some ⟨X.heap.size, 0, none⟩) 0 1) := fun ob => cell_keptF ((Kept.refl _ X1).alloc ob) y2
                have y5 : ∀ ob, (X1.alloc ob).cell? ⟨w3.heap.size, 0, none⟩ = some (.slice (some ⟨w.heap.size + 2, 0, none⟩) p p) := fun ob => cell_keptF ((Kept.refl _ X1).alloc ob) y3
                have HK1 : Hid (Kept (fun _ => False) Z X1) := hk1
                have HIN : Hid (InnerP Rn.cells 2 (fun k => (w4.heap.size ≤ k ∧ k < X.heap.size) ∨ w6.heap.size ≤ k) X1 b vss) := hin
                clear hin hk1 hb1
                go_simp
                refine hK.out _ _ y3 (fun hH => ?_)
                clear hK K
                refine wpAnyH_ready (rs := [10]) (by kernel_rfl) (by simp) ?_
                refine AllReadyH.cons rfl (fun K hK => ?_) (AllReadyH.nil)
                go_simp
                refine hK.out _ _ (y5 _) (fun hH => ?_)
                clear hK K
                refine wpAnyH_ready (rs := [11]) (by kernel_rfl) (by simp) ?_
                refine AllReadyH.cons rfl (fun K hK => ?_) (AllReadyH.nil)
                refine step_append_room_row (by rfl) (.tmp 64) (.tmp 74) 167 (by rfl) ptr_len ptr_one 144 i0 (.pointer none) 8 Ybaf.underlying167 hi0 hz0 hz1 hz2 rfl X.heap.size 0 0 1 [] (by rfl) ((HUP.out.row.kept HK1.out (fun _ _ => id)).alloc _) ⟨X1.heap.size, 0, none⟩ 1 1 [b] (by rfl) rfl (src_ptr (Blk.new X1 _ _)) (by omega) (by omega) (by omega) ?_
                intro w9 hrow hgrow
                have hb9 := ((HUP.out.box.kept HK1.out id).alloc _).grown hgrow (fun e => by simp at e)
                have v1 : w9.cell? ⟨X.heap.size + 1, 0, none⟩ = some (.slice (some ⟨X.heap.size, 0, none⟩) 0 1) := hb9.cell 0
                have v2 := hb9.free 0
                have v3 : w9.cell? ⟨w3.heap.size, 0, none⟩ = some (.slice (some ⟨w.heap.size + 2, 0, none⟩) p p) := by
                  have hg := hgrow.block w3.heap.size (World.block_lt_of_cell? _ _ (y5 _)) (fun e => by simp at e; omega)
                  rw [World.cell?_of_block (w := _) hg]
                  exact y5 _
                have HST : Hid _ := up_step (x := ((0 : Int), (p : Int))) HUP.out (by omega) (fun k hc => by omega) HK1.out HIN.out hgrow hrow
                clear hrow hgrow hb9
                go_simp
                refine hK.out _ _ v3 (fun hH => ?_)
                clear hK K
                refine wpAnyH_ready (rs := [12]) (by kernel_rfl) (by simp) ?_
                refine AllReadyH.cons rfl (fun K hK => ?_) (AllReadyH.nil)
                go_simp
                refine hK.out _ _ ?_ (fun hH => ?_)
                · exact (World.cell?_setCell_far _ _ _ _ (by simp; omega)).trans v3
                clear hK K
                refine wpAnyH_done (by kernel_rfl) ?_ _
                exact ⟨rfl, ⟨_, HST.out.1⟩, HST.out.2⟩
              · go_simp
                refine hK.out _ _ (za _) (fun hH => ?_)
                clear hK K
                refine wpAnyH_ready (rs := [0, 9]) (by kernel_rfl) (by simp) ?_
                refine AllReadyH.cons rfl (fun K hK => ?_) (AllReadyH.cons rfl (fun K hK => ?_) (AllReadyH.nil))
                · go_simp
                  refine hK.out _ _ hH (fun hH => ?_)
                  clear hK K
                  refine wpAnyH_ready (rs := [9]) (by kernel_rfl) (by simp) ?_
                  refine AllReadyH.cons rfl (fun K hK => ?_) (AllReadyH.nil)
                  refine step_call3 (by rfl) (.tmp 68) (.tmp 69) (.tmp 72) 73 167 22 22 (by rfl) _ _ _ (by rfl) (by rfl) (by rfl) (enters_of Ybaf.func73 (by kernel_rfl) rfl) HCALL.out ?_
                  rintro v X1 ⟨b, rfl, hin, hk1⟩
                  have hb1 := HUP.out.box.kept hk1 id
                  have y2 : X1.cell? ⟨X.heap.size + 1, 0, none⟩ = some (.slice (some ⟨X.heap.size, 0, none⟩) 0 1) := hb1.cell 0
                  have y2f := hb1.free 0
                  have y3 := cell_keptF hk1 zz1
                  have y4 : ∀ ob, (X1.alloc ob).cell? ⟨X.heap.size + 1, 0, none⟩ = some (.slice (some ⟨X.heap.size, 0, none⟩) 0 1) := fun ob => cell_keptF ((Kept.refl _ X1).alloc ob) y2
                  have y5 : ∀ ob, (X1.alloc ob).cell? ⟨w3.heap.size, 0, none⟩ = some (.slice (some ⟨w.heap.size + 2, 0, none⟩) p p) := fun ob => cell_keptF ((Kept.refl _ X1).alloc ob) y3
                  have HK1 : Hid (Kept (fun _ => False) Z X1) := hk1
                  have HIN : Hid (InnerP Rn.cells 2 (fun k => (w4.heap.size ≤ k ∧ k < X.heap.size) ∨ w6.heap.size ≤ k) X1 b vss) := hin
                  clear hin hk1 hb1
                  go_simp
                  refine hK.out _ _ y3 (fun hH => ?_)
                  clear hK K
                  refine wpAnyH_ready (rs := [10]) (by kernel_rfl) (by simp) ?_
                  refine AllReadyH.cons rfl (fun K hK => ?_) (AllReadyH.nil)
                  go_simp
                  refine hK.out _ _ (y5 _) (fun hH => ?_)
                  clear hK K
                  refine wpAnyH_ready (rs := [11]) (by kernel_rfl) (by simp) ?_
                  refine AllReadyH.cons rfl (fun K hK => ?_) (AllReadyH.nil)
                  refine step_append_room_row (by rfl) (.tmp 64) (.tmp 74) 167 (by rfl) ptr_len ptr_one 144 i0 (.pointer none) 8 Ybaf.underlying167 hi0 hz0 hz1 hz2 rfl X.heap.size 0 0 1 [] (by rfl) ((HUP.out.row.kept HK1.out (fun _ _ => id)).alloc _) ⟨X1.heap.size, 0, none⟩ 1 1 [b] (by rfl) rfl (src_ptr (Blk.new X1 _ _)) (by omega) (by omega) (by omega) ?_
                  intro w9 hrow hgrow
                  have hb9 := ((HUP.out.box.kept HK1.out id).alloc _).grown hgrow (fun e => by simp at e)
                  have v1 : w9.cell? ⟨X.heap.size + 1, 0, none⟩ = some (.slice (some ⟨X.heap.size, 0, none⟩) 0 1) := hb9.cell 0
                  have v2 := hb9.free 0
                  have v3 : w9.cell? ⟨w3.heap.size, 0, none⟩ = some (.slice (some ⟨w.heap.size + 2, 0, none⟩) p p) := by
                    have hg := hgrow.block w3.heap.size (World.block_lt_of_cell? _ _ (y5 _)) (fun e => by simp at e; omega)
                    rw [World.cell?_of_block (w := _) hg]
                    exact y5 _
                  have HST : Hid _ := up_step (x := ((0 : Int), (p : Int))) HUP.out (by omega) (fun k hc => by omega) HK1.out HIN.out hgrow hrow
                  clear hrow hgrow hb9
                  go_simp
                  refine hK.out _ _ v3 (fun hH => ?_)
                  clear hK K
                  refine wpAnyH_ready (rs := [12]) (by kernel_rfl) (by simp) ?_
                  refine AllReadyH.cons rfl (fun K hK => ?_) (AllReadyH.nil)
                  go_simp
                  refine hK.out _ _ ?_ (fun hH => ?_)
                  · exact (World.cell?_setCell_far _ _ _ _ (by simp; omega)).trans v3
                  clear hK K
                  refine wpAnyH_done (by kernel_rfl) ?_ _
                  exact ⟨rfl, ⟨_, HST.out.1⟩, HST.out.2⟩
                · refine step_call3 (by rfl) (.tmp 68) (.tmp 69) (.tmp 72) 73 167 22 22 (by rfl) _ _ _ (by rfl) (by rfl) (by rfl) (enters_of Ybaf.func73 (by kernel_rfl) rfl) HCALL.out ?_
                  rintro v X1 ⟨b, rfl, hin, hk1⟩
                  have hb1 := HUP.out.box.kept hk1 id
                  have y2 : X1.cell? ⟨X.heap.size + 1, 0, none⟩ = some (.slice (some ⟨X.heap.size, 0, none⟩) 0 1) := hb1.cell 0
                  have y2f := hb1.free 0
                  have y3 := cell_keptF hk1 zz1
                  have y4 : ∀ ob, (X1.alloc ob).cell? ⟨X.heap.size + 1, 0, none⟩ = some (.slice (some ⟨X.heap.size, 0, none⟩) 0 1) := fun ob => cell_keptF ((Kept.refl _ X1).alloc ob) y2
                  have y5 : ∀ ob, (X1.alloc ob).cell? ⟨w3.heap.size, 0, none⟩ = some (.slice (some ⟨w.heap.size + 2, 0, none⟩) p p) := fun ob => cell_keptF ((Kept.refl _ X1).alloc ob) y3
                  have HK1 : Hid (Kept (fun _ => False) Z X1) := hk1
                  have HIN : Hid (InnerP Rn.cells 2 (fun k => (w4.heap.size ≤ k ∧ k < X.heap.size) ∨ w6.heap.size ≤ k) X1 b vss) := hin
                  clear hin hk1 hb1
                  go_simp
                  refine hK.out _ _ y3 (fun hH => ?_)
                  clear hK K
                  refine wpAnyH_ready (rs := [0, 10]) (by kernel_rfl) (by simp) ?_
                  refine AllReadyH.cons rfl (fun K hK => ?_) (AllReadyH.cons rfl (fun K hK => ?_) (AllReadyH.nil))
                  · go_simp
                    refine hK.out _ _ hH (fun hH => ?_)
                    clear hK K
                    refine wpAnyH_ready (rs := [10]) (by kernel_rfl) (by simp) ?_
                    refine AllReadyH.cons rfl (fun K hK => ?_) (AllReadyH.nil)
                    go_simp
                    refine hK.out _ _ (y5 _) (fun hH => ?_)
                    clear hK K
                    refine wpAnyH_ready (rs := [11]) (by kernel_rfl) (by simp) ?_
                    refine AllReadyH.cons rfl (fun K hK => ?_) (AllReadyH.nil)
                    refine step_append_room_row (by rfl) (.tmp 64) (.tmp 74) 167 (by rfl) ptr_len ptr_one 144 i0 (.pointer none) 8 Ybaf.underlying167 hi0 hz0 hz1 hz2 rfl X.heap.size 0 0 1 [] (by rfl) ((HUP.out.row.kept HK1.out (fun _ _ => id)).alloc _) ⟨X1.heap.size, 0, none⟩ 1 1 [b] (by rfl) rfl (src_ptr (Blk.new X1 _ _)) (by omega) (by omega) (by omega) ?_
                    intro w9 hrow hgrow
                    have hb9 := ((HUP.out.box.kept HK1.out id).alloc _).grown hgrow (fun e => by simp at e)
                    have v1 : w9.cell? ⟨X.heap.size + 1, 0, none⟩ = some (.slice (some ⟨X.heap.size, 0, none⟩) 0 1) := hb9.cell 0
                    have v2 := hb9.free 0
                    have v3 : w9.cell? ⟨w3.heap.size, 0, none⟩ = some (.slice (some ⟨w.heap.size + 2, 0, none⟩) p p) := by
                      have hg := hgrow.block w3.heap.size (World.block_lt_of_cell? _ _ (y5 _)) (fun e => by simp at e; omega)
                      rw [World.cell?_of_block (w := _) hg]
                      exact y5 _
                    have HST : Hid _ := up_step (x := ((0 : Int), (p : Int))) HUP.out (by omega) (fun k hc => by omega) HK1.out HIN.out hgrow hrow
                    clear hrow hgrow hb9
                    go_simp
                    refine hK.out _ _ v3 (fun hH => ?_)
                    clear hK K
                    refine wpAnyH_ready (rs := [12]) (by kernel_rfl) (by simp) ?_
                    refine AllReadyH.cons rfl (fun K hK => ?_) (AllReadyH.nil)
                    go_simp
                    refine hK.out _ _ ?_ (fun hH => ?_)
                    · exact (World.cell?_setCell_far _ _ _ _ (by simp; omega)).trans v3
                    clear hK K
                    refine wpAnyH_done (by kernel_rfl) ?_ _
                    exact ⟨rfl, ⟨_, HST.out.1⟩, HST.out.2⟩
                  · go_simp
                    refine hK.out _ _ (y5 _) (fun hH => ?_)
                    clear hK K
                    refine wpAnyH_ready (rs := [0]) (by kernel_rfl) (by simp) ?_
                    refine AllReadyH.cons rfl (fun K hK => ?_) (AllReadyH.nil)
                    go_simp
                    refine hK.out _ _ hH (fun hH => ?_)
                    clear hK K
                    refine wpAnyH_ready (rs := [11]) (by kernel_rfl) (by simp) ?_
                    refine AllReadyH.cons rfl (fun K hK => ?_) (AllReadyH.nil)
                    refine step_append_room_row (by rfl) (.tmp 64) (.tmp 74) 167 (by rfl) ptr_len ptr_one 144 i0 (.pointer none) 8 Ybaf.underlying167 hi0 hz0 hz1 hz2 rfl X.heap.size 0 0 1 [] (by rfl) ((HUP.out.row.kept HK1.out (fun _ _ => id)).alloc _) ⟨X1.heap.size, 0, none⟩ 1 1 [b] (by rfl) rfl (src_ptr (Blk.new X1 _ _)) (by omega) (by omega) (by omega) ?_
                    intro w9 hrow hgrow
                    have hb9 := ((HUP.out.box.kept HK1.out id).alloc _).grown hgrow (fun e => by simp at e)
                    have v1 : w9.cell? ⟨X.heap.size + 1, 0, none⟩ = some (.slice (some ⟨X.heap.size, 0, none⟩) 0 1) := hb9.cell 0
                    have v2 := hb9.free 0
                    have v3 : w9.cell? ⟨w3.heap.size, 0, none⟩ = some (.slice (some ⟨w.heap.size + 2, 0, none⟩) p p) := by
                      have hg := hgrow.block w3.heap.size (World.block_lt_of_cell? _ _ (y5 _)) (fun e => by simp at e; omega)
                      rw [World.cell?_of_block (w := _) hg]
                      exact y5 _
                    have HST : Hid _ := up_step (x := ((0 : Int), (p : Int))) HUP.out (by omega) (fun k hc => by omega) HK1.out HIN.out hgrow hrow
                    clear hrow hgrow hb9
                    go_simp
                    refine hK.out _ _ v3 (fun hH => ?_)
                    clear hK K
                    refine wpAnyH_ready (rs := [12]) (by kernel_rfl) (by simp) ?_
                    refine AllReadyH.cons rfl (fun K hK => ?_) (AllReadyH.nil)
                    go_simp
                    refine hK.out _ _ ?_ (fun hH => ?_)
                    · exact (World.cell?_setCell_far _ _ _ _ (by simp; omega)).trans v3
                    clear hK K
                    refine wpAnyH_done (by kernel_rfl) ?_ _
                    exact ⟨rfl, ⟨_, HST.out.1⟩, HST.out.2⟩
        case done =>
          rintro D2 Y hD2 ⟨us, h⟩ hkY hdef2
          rw [hparts] at h
          have hr1 : (rangesOf p 1).length = 1 := by simp [rangesOf]
          have hul := h.row.len
          rw [hr1] at hul
          obtain ⟨b, rfl⟩ : ∃ b, us = [b] := List.length_eq_one_iff.1 hul
          have hDX := HLV.out.kb.size
          have heq : ∀ k, k < X.heap.size → Y.heap[k]? = X.heap[k]? := fun k hk => (hkY.eqv (by omega) (by omega) (by rw [hbq6]; simp; omega)).trans (HK6.out.block k hk id)
          have hcX : ∀ {q : Addr} {v : Value}, X.cell? q = some v → Y.cell? q = some v := fun {q v} hq => by
            rw [World.cell?_of_block (w := X) (heq q.block (World.block_lt_of_cell? X q hq))]
            exact hq
          have t0 := hcX z0
          have t1 := hcX z1
          have hbrow := h.row
          have hbbox := h.box
          rw [hr1] at hbrow hbbox
          have t2 : Y.cell? ⟨X.heap.size + 1, 0, none⟩ = some (.slice (some ⟨X.heap.size, 0, none⟩) 1 1) := hbbox.cell 0
          have t3 : Y.cell? ⟨X.heap.size, 0, none⟩ = some (.pointer (some ⟨b, 0, none⟩)) := by
            have := hbrow.cell ptr_len (show [b][0]? = some b from rfl) 0 (by omega)
            simpa [ptrCells] using this
          have hbxF : Blk Y w3.heap.size #[.slice (some ⟨w.heap.size + 2, 0, none⟩) p p] := by
            have := HLV.out.box
            rw [hrl] at this
            exact this.eqv (heq _ (by omega))
          have t1f := hbxF.free 0
          have hbrY : Blk Y (w.heap.size + 1) #[.pointer none, .int .i64 0, .int .i64 0, .nilFunc] := HBR.out.eqv (heq _ (by omega))
          have hnode := h.node b rfl
          have hdX : D < X.heap.size := (Array.getElem?_eq_some_iff.1 HDEF.out).1
          have hdefD : Y.heap[D]? = some (.deferred (some [])) := (heq D hdX).trans HDEF.out
          have HND : Hid (InnerP Rn.cells 2 (fun k => (w4.heap.size ≤ k ∧ k < X.heap.size) ∨ w6.heap.size ≤ k) Y b ((rangesOf n p).map (cutAt vs))) := hnode
          have HBY : Hid (Blk Y (w.heap.size + 1) #[.pointer none, .int .i64 0, .int .i64 0, .nilFunc]) := hbrY
          have HDD : Hid (Y.heap[D]? = some (.deferred (some []))) := hdefD
          have HD2 : Hid (Y.heap[D2]? = some (.deferred (some []))) := hdef2
          have HKY : Hid (Kb (X.heap.size + 1) w6 Y) := hkY
          have HEQ : Hid (∀ k, k < X.heap.size → Y.heap[k]? = X.heap[k]?) := heq
          clear h hul heq hcX hbrow hbbox hbxF hbrY hnode hdefD hdef2 hkY hU0
          gi_wp2
          have hk1 : Kept (fun k => k = w3.heap.size) Y (Y.setCell ⟨w3.heap.size, 0, none⟩ (.slice (some ⟨X.heap.size, 0, none⟩) 1 1)) := (Kept.refl (fun k => k = w3.heap.size) Y).setCell (p := ⟨w3.heap.size, 0, none⟩) rfl _
          have hcc : ∀ {q : Addr} {v : Value}, q.block ≠ w3.heap.size → Y.cell? q = some v → (Y.setCell ⟨w3.heap.size, 0, none⟩ (.slice (some ⟨X.heap.size, 0, none⟩) 1 1)).cell? q = some v := fun {q v} hne hq => by
            rw [World.cell?_of_block (w := Y) (hk1.block q.block (World.block_lt_of_cell? Y q hq) hne)]
            exact hq
          have s0 := hcc (by simp; omega) t0
          have s3 := hcc (by simp; omega) t3
          have s1 : (Y.setCell ⟨w3.heap.size, 0, none⟩ (.slice (some ⟨X.heap.size, 0, none⟩) 1 1)).cell? ⟨w3.heap.size, 0, none⟩ = some (.slice (some ⟨X.heap.size, 0, none⟩) 1 1) := by
            have hbx : Blk Y w3.heap.size #[.slice (some ⟨w.heap.size + 2, 0, none⟩) p p] := by
              have := HLV.out.box
              rw [hrl] at this
              exact this.eqv (HEQ.out _ (by omega))
            have := (hbx.set 0 (.slice (some ⟨X.heap.size, 0, none⟩) 1 1)).cell 0
            simpa using this
          have hby1 := HBY.out.kept hk1 (by omega)
          generalize (Y.setCell ⟨w3.heap.size, 0, none⟩ (.slice (some ⟨X.heap.size, 0, none⟩) 1 1)) = Y1 at hk1 s0 s1 s3 hby1 ⊢
          have HK1 : Hid (Kept (fun k => k = w3.heap.size) Y Y1) := hk1
          have HB1Y : Hid (Blk Y1 (w.heap.size + 1) #[.pointer none, .int .i64 0, .int .i64 0, .nilFunc]) := hby1
          have r0 : Y1.cell? ⟨w.heap.size + 1, 0, none⟩ = some (.pointer none) := hby1.cell 0
          have r1 : Y1.cell? ⟨w.heap.size + 1, 1, none⟩ = some (.int .i64 0) := hby1.cell 1
          have r2 : Y1.cell? ⟨w.heap.size + 1, 2, none⟩ = some (.int .i64 0) := hby1.cell 2
          have r3 : Y1.cell? ⟨w.heap.size + 1, 3, none⟩ = some .nilFunc := hby1.cell 3
          have rf0 := hby1.free 0
          have rf1 := hby1.free 1
          have rf2 := hby1.free 2
          have rf3 := hby1.free 3
          have hn3 : w.heap.size + 1 ≠ w3.heap.size := by omega
          have hn4 : w.heap.size + 1 ≠ X.heap.size := by omega
          clear hk1 hcc hby1 t0 t1 t2 t3 t1f z0 z1
          rw [roundsIn_succ]
          gi_wp2
          refine wpIn_wide.2 ?_
          go_region_held3 (fun w' => w'.cell? ⟨w.heap.size, 0, none⟩ = some (.slice (some ⟨b1, o1, none⟩) n c) ∧ w'.cell? ⟨w3.heap.size, 0, none⟩ = some (.slice (some ⟨X.heap.size, 0, none⟩) 1 1) ∧ w'.cell? ⟨X.heap.size, 0, none⟩ = some (.pointer (some ⟨b, 0, none⟩))) (go_keep) (fail)
          clear r0 r1 r2 r3 rf0 rf1 rf2 rf3 s0 s1 s3
          obtain ⟨hY1, hY2⟩ := set4 HB1Y.out (.pointer (some ⟨b, 0, none⟩)) (.int .i64 n) (.int .i64 0) .nilFunc
          generalize (((((Y1.setCell ⟨w.heap.size + 1, 0, none⟩ (.pointer (some ⟨b, 0, none⟩))).setCell ⟨w.heap.size + 1, 1, none⟩ (.int .i64 n)).setCell ⟨w.heap.size + 1, 2, none⟩ (.int .i64 0)).setCell ⟨w.heap.size + 1, 3, none⟩ .nilFunc).drew) = Y2 at hY1 hY2 ⊢
          gi_wp2
          have hkk : Kept (fun k => k = w3.heap.size ∨ k = w.heap.size + 1) Y Y2 := (HK1.out.mono (fun k e => .inl e)).trans (hY2.mono (fun k e => .inr e))
          have hrope : RopeP Rn.cells 2 (fun k => (w4.heap.size ≤ k ∧ k < X.heap.size) ∨ w6.heap.size ≤ k) Y b vs := by
            refine .inr ⟨_, by simp [rangesOf]; omega, ?_, flatten_ranges vs n p (by omega) HR.out.len, HND.out⟩
            intro us hus
            simp only [rangesOf, List.map_map, List.mem_map, List.mem_range] at hus
            obtain ⟨k, hk, rfl⟩ := hus
            obtain ⟨q1, q2, q3⟩ := range_facts hp hpos hk
            have hvsl := HR.out.len
            intro hh
            have hhl := congrArg List.length hh
            simp only [Function.comp_apply, cutAt, rangeAt_nat, Int.toNat_natCast, List.length_take, List.length_drop, List.length_nil] at hhl
            omega
          have hropeY := hrope.eqv (w' := Y2) (fun k hc hl => hkk.block k hl (by omega))
          have hYX := HKY.out.size
          have hD2l : D2 < Y.heap.size := (Array.getElem?_eq_some_iff.1 HD2.out).1
          have hd2 : Y2.heap[D2]? = some (.deferred (some [])) := (hkk.block D2 hD2l (by omega)).trans HD2.out
          have hd1 : Y2.heap[D]? = some (.deferred (some [])) := (hkk.block D (by omega) (by omega)).trans HDD.out
          have hne : D ≠ D2 := by omega
          refine ⟨by simp, .inl ⟨_, _, rfl, run_takeDeferred hd2, ?_⟩⟩
          have hd1' : (Y2.putObj D2 (.deferred none)).heap[D]? = some (.deferred (some [])) := (World.putObj_heap_other hne).trans hd1
          refine ⟨by simp, .inl ⟨_, _, rfl, run_takeDeferred hd1', ?_⟩⟩
          obtain ⟨ey, hYe⟩ := hY1
          refine ⟨_, results_cell_row rfl _ _ (w.heap.size + 1) ey _ (0, 0) _ rfl ((World.putObj_heap_other (by omega)).trans ((World.putObj_heap_other (by omega)).trans hYe)) Ybaf.underlying147 rfl (by kernel_rfl), ?_⟩
          refine ⟨_, _, rfl, (.inr ⟨b, rfl, ((hropeY.putN hd2 (fun _ _ _ e => by cases e)).putN hd1' (fun _ _ _ e => by cases e)).mono (fun k hk _ => by omega)⟩), ?_⟩
          have k24 := (HK2.out.trans HK3.out).trans HK4.out
          have kx := HKX.out
          have hk2s := HK2.out.size
          have ky := HKY.out
          have k6 := HK6.out
          have hkxs := kx.size
          refine ⟨(((hkk.os.trans ky.os).trans k6.os).trans kx.os).trans k24.os, (((hkk.tape.trans ky.tape).trans k6.tape).trans kx.tape).trans k24.tape, (((hkk.output.trans ky.output).trans k6.output).trans kx.output).trans k24.output, ?_, fun k hk _ => ?_⟩
          · have := hkk.size
            simp
            omega
          · exact ((((World.putObj_heap_other (by omega)).trans (World.putObj_heap_other (by omega))).trans (hkk.block k (by omega) (by omega))).trans (HEQ.out k (by omega))).trans ((kx.eqv (by omega) (by omega) (by rw [hbq]; simp; omega)).trans (k24.block k hk id))

end Go.Proofs.YbulkdyyyFmt.OfR
