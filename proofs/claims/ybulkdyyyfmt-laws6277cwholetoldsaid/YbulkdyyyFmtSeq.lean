/-
  Seat b6277aF: slices.AppendSeq, Collect, SortedFunc over slices.Values.
-/
import Derived.Test.YbulkdyyyFmtLni
import Derived.Test.YbulkdyyyFmtValues
import Derived.Test.YbulkdyyyFmtShelf
import Derived.Shelf.SlSortCmp.NoneTotal
namespace Go.Proofs.YbulkdyyyFmt
open Go.RowKit Go.Shelf Go.Sort
set_option linter.unusedVariables false
set_option linter.unnecessarySimpa false
attribute [local go_sem] Oper.semAt_some
attribute [local go_sem] wide_fn wide_depth

/-- What the loop has laid. -/
structure Got (fb : Nat) (w4 : World) (pre : List Sn) (W : World) (a : Option Addr) (n c : Nat) : Prop where
  box : Blk W fb #[.slice a n c]
  row : Row Sn.cells 3 W a n c pre
  far : ∀ b, blkOf a = some b → w4.heap.size ≤ b
  nil : a = none ↔ pre = []
  kb : Kb fb w4 W

theorem Got.box_blk {fb : Nat} {w4 : World} {pre : List Sn} {W : World} {a : Option Addr} {n c : Nat} (h : Got fb w4 pre W a n c) : boxBlk W fb = blkOf a := by
  unfold boxBlk
  rw [h.box.cell 0]
  rfl

theorem info81 : (Ybaf.prog.info? 81).map (fun i => (i.zero, i.size, i.bytes)) = some (some (.agg #[.int .u64 0, .int .u32 0, .int .u32 0]), 3, 16) := by kernel_rfl

theorem SpAt.kept {W W' : World} {a : Option Addr} {xs : List Sn} (h : SpAt W a xs) (hk : Kept (fun _ => False) W W') : SpAt W' a xs := by
  rcases h with h | ⟨b, o, h1, h2⟩
  · exact .inl h
  · exact .inr ⟨b, o, h1, fun i x hx => ⟨cell_keptF hk (h2 i x hx).1, cell_keptF hk (h2 i x hx).2.1, cell_keptF hk (h2 i x hx).2.2⟩⟩

set_option maxRecDepth 100000 in
set_option maxHeartbeats 2000000 in
theorem appseq_any (va : Option Addr) (vn vc vb : Nat) (xs : List Sn) (w : World) (hcv : w.cell? ⟨vb, 0, none⟩ = some (.slice va vn vc)) (hsp : SpAt w va xs) (hn : xs.length = vn) (hsm : vn ≤ 4096) (hva : ∀ b, blkOf va = some b → b < w.heap.size) :
    Calls Ybaf.prog 68 #[.slice none 0 0, .func (.func 53) #[] #[.pointer (some ⟨vb, 0, none⟩)]] w fun e w' => ∃ a n c, e = .returned (.slice a n c) ∧ Row Sn.cells 3 w' a n c xs ∧ (a = none ↔ xs = []) ∧ (∀ b, blkOf a = some b → w.heap.size ≤ b) ∧ Kept (fun _ => False) w w' := by
  refine (callsIn_wide (n := 3)).1 (callsIn_of_wp_marks Ybaf.func68 rfl trivial ?_ rfl)
  simp only [Ybaf.ntmps68, List.size_toArray, List.length_cons, List.length_nil, Nat.reduceAdd, Nat.reduceSub, Array.replicate_succ, Array.replicate_zero, List.push_toArray, List.append_toArray, List.nil_append, List.cons_append]
  have HSP : Hid (SpAt w va xs) := hsp
  have HVA : Hid _ := hva
  clear hsp hva
  gi_wp2
  obtain ⟨w4, hw4⟩ : ∃ w4, w.alloc (.cells #[.slice none 0 0] 35) = w4 := ⟨_, rfl⟩
  have hk4 : Kept (fun _ => False) w w4 := by rw [← hw4]; exact (Kept.refl _ w).alloc _
  have hs4 : w4.heap.size = w.heap.size + 1 := by rw [← hw4]; simp
  have y1 : Blk w4 w.heap.size #[.slice none 0 0] := by rw [← hw4]; exact Blk.new w _ 35
  rw [hw4]
  clear hw4
  have hvb : vb < w.heap.size := World.block_lt_of_cell? w _ hcv
  have hnb4 : boxBlk w4 w.heap.size = none := by unfold boxBlk; rw [y1.cell 0]; rfl
  have hcv4 := cell_keptF hk4 hcv
  have hsp4 : SpAt w4 va xs := HSP.out.kept hk4
  have HK04 : Hid (Kept (fun _ => False) w w4) := hk4
  refine rangeFunc_go (gf := 53) (lb := #[.pointer (some ⟨vb, 0, none⟩)]) rfl (enters_of Ybaf.func53 (by kernel_rfl) rfl) (encs := snEnc) (fun _ => rfl) (fb := w.heap.size)
    (values_iter (fb := w.heap.size) (vb := vb) (c := vc) (a := va) hn hsm) (by omega) ?pre
    (fun pre X => ∃ a n c, Got w.heap.size w4 pre X a n c) ?own ?rows ?start
    (fun x a1 X => ∃ lb, a1 = { tmps := #[.slice none 0 0, .func (.func 53) #[] #[.pointer (some ⟨vb, 0, none⟩)], .pointer (some ⟨w.heap.size, 0, none⟩), undef, .slice none 0 0, .pointer (some ⟨lb, 0, none⟩), .func (.func 53) #[] #[.pointer (some ⟨vb, 0, none⟩)], .agg #[.int .u64 x.site, .int .u32 x.first, .int .u32 x.last], undef, undef, undef, undef, undef], defers := [] } ∧ X.cell? ⟨lb, 0, none⟩ = some (.int .u64 x.site) ∧ X.cell? ⟨lb, 1, none⟩ = some (.int .u32 x.first) ∧ X.cell? ⟨lb, 2, none⟩ = some (.int .u32 x.last) ∧ w4.heap.size ≤ lb) ?ownA ?assign ?body ?done
  case pre =>
    intro o1 o2
    have hka : Kept (fun _ => False) w4 ((w4.alloc o1).alloc o2) := ((Kept.refl _ w4).alloc _).alloc _
    have hbq : boxBlk ((w4.alloc o1).alloc o2) w.heap.size = none := (boxBlk_eqv (hka.block _ (by omega) id)).trans hnb4
    refine ⟨cell_keptF hka hcv4, hsp4.kept hka, by omega, by rw [hbq]; simp, fun b e => ⟨?_, by rw [hbq]; simp⟩⟩
    have := HVA.out b e
    omega
  case own =>
    refine ⟨fun pre X o ⟨a, n, c, h⟩ => ⟨a, n, c, h.box.alloc _, h.row.alloc _, h.far, h.nil, h.kb.alloc h.box.lt _⟩, fun pre X q ⟨a, n, c, h⟩ => ⟨a, n, c, h.box.eqv rfl, h.row.eqv (fun _ _ => rfl), h.far, h.nil, h.kb.drewN _⟩,
      fun pre X l r r' hl hr ⟨a, n, c, h⟩ => ⟨a, n, c, h.box.putN hr (fun _ _ _ e => by cases e), h.row.putN hr (fun _ _ _ e => by cases e), h.far, h.nil, h.kb.put hl (by omega) _⟩,
      fun pre X l ds o hl hr ⟨a, n, c, h⟩ => ⟨a, n, c, h.box.putN hr (fun _ _ _ e => by cases e), h.row.putN hr (fun _ _ _ e => by cases e), h.far, h.nil, h.kb.put hl (by omega) _⟩⟩
  case rows =>
    rintro pre X k ⟨a, n, c, h⟩ e
    rw [h.box_blk] at e
    rcases h.row.row with ⟨rfl, _⟩ | ⟨b, o, cs, rfl, ⟨e', hb⟩, _⟩
    · cases e
    · cases e
      exact ⟨_, _, _, hb⟩
  case start => exact ⟨none, 0, 0, y1, Row.nil (by omega), by simp [blkOf], by simp, Kb.refl _ _⟩
  case ownA =>
    intro x a1
    refine ⟨fun _ X o ⟨lb, h0, h1, h2, h3, h4⟩ => ⟨lb, h0, cell_alloc' h1 _, cell_alloc' h2 _, cell_alloc' h3 _, h4⟩, fun _ X q h => h, fun _ X l r r' hl hr ⟨lb, h0, h1, h2, h3, h4⟩ => ⟨lb, h0, cell_putLoop h1 hr _, cell_putLoop h2 hr _, cell_putLoop h3 hr _, h4⟩, fun _ X l ds o hl hr ⟨lb, h0, h1, h2, h3, h4⟩ => ⟨lb, h0, cell_putShut h1 hr _, cell_putShut h2 hr _, cell_putShut h3 hr _, h4⟩⟩
  case assign =>
    rintro l' pre x X m ⟨a, n, c, h⟩ hpx
    simp only [snEnc]
    have HF : Hid (Got w.heap.size w4 pre X a n c) := h
    clear h
    gi_wp2
    have hfx := HF.out.box.lt
    have hsx := HF.out.kb.size
    refine ⟨⟨a, n, c, HF.out.box.alloc _, HF.out.row.alloc _, HF.out.far, HF.out.nil, HF.out.kb.alloc hfx _⟩, (Kb.refl _ X).alloc hfx _, X.heap.size, rfl, ?_, ?_, ?_, hsx⟩
    · simpa using (Blk.new X #[.int .u64 x.site, .int .u32 x.first, .int .u32 x.last] 81).cell 0
    · simpa using (Blk.new X #[.int .u64 x.site, .int .u32 x.first, .int .u32 x.last] 81).cell 1
    · simpa using (Blk.new X #[.int .u64 x.site, .int .u32 x.first, .int .u32 x.last] 81).cell 2
  case body =>
    rintro l' pre x a1 X1 m ⟨a, n, c, h⟩ ⟨lb, rfl, l0, l1, l2, hlb⟩ hpx
    have HF1 : Hid (Got w.heap.size w4 pre X1 a n c) := h
    have hlen : pre.length + 1 ≤ xs.length := by have := hpx.length_le; simp at this; omega
    have hnl : n = pre.length := h.row.len.symm
    have f0 : X1.cell? ⟨w.heap.size, 0, none⟩ = some (.slice a n c) := HF1.out.box.cell 0
    obtain ⟨i0, hi0, hz0, hz1, hz2⟩ := info_parts info81
    have HQ : Hid (some w.heap.size ≠ blkOf a) := fun e => by have := HF1.out.far _ e.symm; omega
    have HNL : Hid (n = pre.length) := hnl
    have hn2 : n + 1 ≤ 4096 := by omega
    clear h hpx hnl hlen hn
    gi_wp2_with (gi_at_builtin; refine wpListIn_append_row _ rfl (.tmp 8) (.tmp 10) 35 rfl sn_len sn_one 81 i0 (.agg #[.int .u64 0, .int .u32 0, .int .u32 0]) 16 Ybaf.underlying35 hi0 hz0 hz1 hz2 rfl a n c pre rfl (HF1.out.row.alloc _) ⟨X1.heap.size, 0, none⟩ 1 1 [x] rfl rfl (one_cells3 (Blk.new X1 _ _)) (by omega) (by omega) ?_; intro a5 c5 w5 hrow hgrow hnew hnone; have hbx := (HF1.out.box.alloc _).grown hgrow HQ.out; have v1 : w5.cell? ⟨w.heap.size, 0, none⟩ = some (.slice a n c) := hbx.cell 0; have v2 := hbx.free 0; have HBX : Hid (Blk w5 w.heap.size #[.slice a n c]) := hbx; have HR5 : Hid _ := hrow; have HG5 : Hid _ := hgrow; have HW5 : Hid _ := hnew; have HN5 : Hid _ := hnone; clear hrow hgrow hnew hnone hbx)
    have hgr := HG5.out
    have hs1 := HF1.out.kb.size
    have hfa : ∀ b, blkOf a5 = some b → w4.heap.size ≤ b := fun b e => by
      rcases HW5.out b e with h | h
      · exact HF1.out.far b h
      · simp at h
        omega
    have hne : blkOf a5 ≠ some w.heap.size := fun e => by have := hfa _ e; omega
    have hb6 : Blk (w5.setCell ⟨w.heap.size, 0, none⟩ (.slice a5 (n + 1) c5)) w.heap.size #[.slice a5 (n + 1) c5] := by simpa using HBX.out.set 0 (.slice a5 (n + 1) c5)
    have hbb : boxBlk (w5.setCell ⟨w.heap.size, 0, none⟩ (.slice a5 (n + 1) c5)) w.heap.size = blkOf a5 := by unfold boxBlk; rw [hb6.cell 0]; rfl
    have hkb6 : Kb w.heap.size X1 (w5.setCell ⟨w.heap.size, 0, none⟩ (.slice a5 (n + 1) c5)) := by
      refine ⟨hgr.os, hgr.tape, hgr.output, ?_, fun k o hk h1 h2 => ?_, fun k e => ?_⟩
      · have := hgr.size
        simp [World.setCell] at this ⊢
        omega
      · have hlt := (Array.getElem?_eq_some_iff.1 hk).1
        rw [HF1.out.box_blk] at h2
        rw [heap_setCell_other w5 _ k _ h1, hgr.block k (by simp; omega) (fun e => h2 e.symm), Below.heap_alloc _ _ _ hlt]
        exact hk
      · rw [hbb] at e
        rw [HF1.out.box_blk]
        rcases HW5.out k e with h | h
        · exact .inl h
        · simp at h
          exact .inr (by omega)
    refine ⟨⟨a5, n + 1, c5, hb6, ?_, hfa, ?_, HF1.out.kb.trans hkb6⟩, hkb6⟩
    · exact HR5.out.other hne _ _
    · constructor
      · intro e
        have := (HN5.out e).1
        omega
      · intro e
        simp at e
  case done =>
    rintro D X hD ⟨a, n, c, h⟩ hk2 hdef
    have HF : Hid (Got w.heap.size w4 xs X a n c) := h
    have z0 : X.cell? ⟨w.heap.size, 0, none⟩ = some (.slice a n c) := h.box.cell 0
    have hna : D ≠ w.heap.size := by omega
    clear h hk2
    gi_wp2
    refine ⟨by simp, .inl ⟨_, _, rfl, run_takeDeferred hdef, ?_⟩⟩
    have hkx := HF.out.kb
    have h04 := HK04.out
    refine ⟨_, results_tmp rfl _ _ _, a, n, c, rfl, HF.out.row.putN hdef (fun _ _ _ e => by cases e), HF.out.nil, fun b e => by have := HF.out.far b e; omega, ?_⟩
    refine ⟨hkx.os.trans h04.os, hkx.tape.trans h04.tape, hkx.output.trans h04.output, ?_, fun k hk _ => ?_⟩
    · have := hkx.size
      have := h04.size
      simp
      omega
    · have := h04.size
      exact ((World.putObj_heap_other (by omega)).trans (hkx.eqv (by omega) (by omega) (by rw [hnb4]; simp))).trans (h04.block k hk id)

end Go.Proofs.YbulkdyyyFmt
