/-
  Seat b6277aF: lineSetOf.
-/
import Derived.Test.YbulkdyyyFmtRM
namespace Go.Proofs.YbulkdyyyFmt
open Go.RowKit Go.Sort Go.Shelf
set_option linter.unusedVariables false
set_option linter.unnecessarySimpa false

theorem zero124 (w : World) : (zeroValue 124).run Ybaf.prog w = .ok (.slice none 0 0) w := by kernel_rfl

set_option maxRecDepth 100000 in
set_option maxHeartbeats 4000000 in
theorem lset_any (va : Option Addr) (vn vc : Nat) (xs : List Sn) (w : World) (hsp : SpAt w va xs) (hl : xs.length = vn) (hn : vn ≤ 4096) (hva : ∀ b, blkOf va = some b → b < w.heap.size) (hws : WideS xs) :
    Calls Ybaf.prog 25 #[.slice va vn vc] w fun e w1 => ∃ mb m R, e = .returned (.map (some mb)) ∧ LSet w1.heap.size w1 mb m R ∧ (∀ k c, U64 k → holdsC c (R k) = named xs k c) ∧ Kept (fun _ => False) w w1 := by
  have hb0 : (w.alloc (.cells #[.slice va vn vc] 35)).cell? ⟨w.heap.size, 0, none⟩ = some (.slice va vn vc) := by simpa using (Blk.new w #[.slice va vn vc] 35).cell 0
  have hka : Kept (fun _ => False) w (w.alloc (.cells #[.slice va vn vc] 35)) := (Kept.refl _ w).alloc _
  have hsrt := sorted_any va vn vc w.heap.size xs (w.alloc (.cells #[.slice va vn vc] 35)) hb0 (hsp.kept hka) hl hn (fun b e => by have := hva b e; simp; omega)
  have HS : Hid _ := hsrt
  have HKA : Hid (Kept (fun _ => False) w (w.alloc (.cells #[.slice va vn vc] 35))) := hka
  have HW : Hid (WideS xs) := hws
  clear hsrt hka hsp hva hws hb0
  have hmm : ∀ W, (Instr.makeMap 122 none).run Ybaf.prog W = .ok (.map (some W.heap.size)) (W.alloc (.map #[] 0)) := fun W => by kernel_rfl
  go_enter Ybaf.func25, Ybaf.ntmps25
  go_wp2_with (first
    | (go_at_call 36; refine Calls.mono (values_any _ _ _ _) ?_; rintro e w' ⟨rfl, rfl⟩)
    | (go_at_call 35; refine Calls.mono HS.out ?_; rintro e w1 ⟨a, n, c, ys, rfl, h1, h2, h3, h4, h5, h6⟩; have HP : Hid (ys.Perm xs) := h1; have HO : Hid (Ordered ys) := h3; have HSP : Hid (SpAt w1 a ys) := h4; have HF : Hid (∀ b, blkOf a = some b → (w.alloc (.cells #[.slice va vn vc] 35)).heap.size ≤ b) := h5; have HK1 : Hid (Kept (fun _ => False) (w.alloc (.cells #[.slice va vn vc] 35)) w1) := h6; have hny : ys.length = n := h2; clear h1 h2 h3 h4 h5 h6))
  have hM0 := RM.made w1
  have HM0 : Hid (RM w1 w1.heap.size [] (w1.alloc (.map #[] 0)) (fun _ => none) (fun _ => none)) := hM0
  have hyx : ys.length = xs.length := HP.out.length_eq
  have hwy : WideS ys := fun s hs => HW.out s (HP.out.mem_iff.1 hs)
  have HWY : Hid (WideS ys) := hwy
  clear hM0 hwy hmm
  go_loopw [16] (fun i wr => ∃ (k : Nat) (f : Int → Option Value) (A : Int → Option Addr), k ≤ n ∧ i = .int .i64 k ∧ Hid (RM w1 w1.heap.size (ys.take k) wr f A)) (fun i _ => n - (intOf i).toNat)
  case atStart => exact ⟨0, _, _, Nat.zero_le _, rfl, HM0.out⟩
  case round =>
    obtain ⟨k, f, A, hkn, rfl, HM⟩ := hrel
    by_cases hlt : k < n
    · obtain ⟨s, hs⟩ : ∃ s, ys[k]? = some s := ⟨ys[k]'(by omega), by simp⟩
      have hne : ys ≠ [] := by rintro rfl; simp at hs
      rcases HSP.out with h0 | ⟨b, o, rfl, hcs⟩
      · exact (hne h0).elim
      obtain ⟨c0, c1, c2⟩ := hcs k s hs
      have hkm := HM.out.kept
      replace c0 := cell_keptF hkm c0
      replace c1 := cell_keptF hkm c1
      replace c2 := cell_keptF hkm c2
      obtain ⟨hU, hu1, hu2⟩ := HWY.out s (List.mem_of_getElem? hs)
      have HS1 : Hid (ys[k]? = some s) := hs
      have kk : (k : Int) < (n : Int) := by omega
      clear hs hne hcs hkm
      by_cases hcond : s.first ≤ s.last
      · have hdc : decide (s.first ≤ s.last) = true := by simpa using hcond
        go_wp2
        obtain ⟨W, hW⟩ : ∃ W, wr.alloc (.cells #[.int .u64 s.site, .int .u32 s.first, .int .u32 s.last] 81) = W := ⟨_, rfl⟩
        have hkW : Kept (fun _ => False) wr W := by rw [← hW]; exact (Kept.refl _ wr).alloc _
        have hbW : Blk W wr.heap.size #[.int .u64 s.site, .int .u32 s.first, .int .u32 s.last] := by rw [← hW]; exact Blk.new wr _ 81
        rw [hW]
        have hMW := HM.out.eqv hkW
        obtain ⟨n1, cc1, e1, r1⟩ := hMW.row s.site hU
        have hlk := (show VM W.drew w1.heap.size (ys.take k).length f from hMW.map).look Ybaf.underlying122 (zero124 _) hU
        rw [e1] at hlk
        have htl : (ys.take k).length = k := by rw [List.length_take]; omega
        have hord : Ordered (ys.take k) := HO.out.sublist (List.take_sublist k ys)
        have hra := runsAt (ys.take k) hord s.site
        have hn1 : n1 ≤ 4096 := by have := r1.len; have := hra.len; omega
        have hwide : Wide32 (runsOf (ys.take k) s.site) := hra.wide (fun q hq => (HWY.out q (List.mem_of_mem_take hq)).2)
        have hpush := push_any (A s.site) n1 cc1 (runsOf (ys.take k) s.site) ⟨s.first, s.last⟩ W.drew (r1.eqv (fun _ _ => rfl)) hn1 hu1 hu2 hwide
        have hws := HM.out.kept.size
        have hml := HM.out.map.lt
        have HPU : Hid _ := hpush
        have HMW : Hid (RM w1 w1.heap.size (ys.take k) W f A) := hMW
        have HBW : Hid (Blk W wr.heap.size #[.int .u64 s.site, .int .u32 s.first, .int .u32 s.last]) := hbW
        have HAL : Hid (∀ b, blkOf (A s.site) = some b → b < wr.heap.size) := fun b e => by
          obtain ⟨n2, cc2, e2, r2⟩ := HM.out.row s.site hU
          exact r2.lt b e
        have x0 : W.cell? ⟨wr.heap.size, 0, none⟩ = some (.int .u64 s.site) := hbW.cell 0
        have x1 : W.cell? ⟨wr.heap.size, 1, none⟩ = some (.int .u32 s.first) := hbW.cell 1
        have x2 : W.cell? ⟨wr.heap.size, 2, none⟩ = some (.int .u32 s.last) := hbW.cell 2
        clear hW hkW hbW hMW e1 r1 hord hra hwide hpush c0 c1 c2 hdc
        go_region_held3 (fun w' => w'.cell? ⟨wr.heap.size, 0, none⟩ = some (.int .u64 s.site) ∧ w'.cell? ⟨wr.heap.size, 1, none⟩ = some (.int .u32 s.first) ∧ w'.cell? ⟨wr.heap.size, 2, none⟩ = some (.int .u32 s.last)) (go_keep) (first
          | (go_at_call 41; refine Calls.mono HPU.out ?_; rintro e w2 ⟨a', n', c', rfl, hr2, hn2, hk2⟩; have hk2' : Kept (fun q => blkOf (A s.site) = some q) W w2 := ⟨hk2.os, hk2.tape, hk2.output, hk2.size, hk2.block⟩; have hv2 := HMW.out.map.kept hk2' (fun e => (HMW.out.far _ _ hU e).2 rfl); obtain ⟨w3, hput, hv3, hg3, hsz3⟩ := hv2.put Ybaf.underlying122 (by rw [htl]; unfold maxLen; omega) hU (.slice a' n' c'); have hb2 := HBW.out.kept hk2' (fun e => by have := HAL.out _ e; omega); have hb3 := hb2.grown hg3 (fun e => by simp at e; omega); have v0 : w2.cell? ⟨wr.heap.size, 0, none⟩ = some (.int .u64 s.site) := hb2.cell 0; have v1 : w2.cell? ⟨wr.heap.size, 1, none⟩ = some (.int .u32 s.first) := hb2.cell 1; have v2 : w2.cell? ⟨wr.heap.size, 2, none⟩ = some (.int .u32 s.last) := hb2.cell 2; have v3 : w3.cell? ⟨wr.heap.size, 0, none⟩ = some (.int .u64 s.site) := hb3.cell 0; have v4 : w3.cell? ⟨wr.heap.size, 1, none⟩ = some (.int .u32 s.first) := hb3.cell 1; have v5 : w3.cell? ⟨wr.heap.size, 2, none⟩ = some (.int .u32 s.last) := hb3.cell 2; have HST : Hid _ := HMW.out.step hcond hU hk2' hr2 hn2 hv3 hg3; clear hr2 hn2 hk2 hk2' hv2 hv3 hg3 hsz3 hb2 hb3)
          | fail)
        all_goals
          go_wp2
          refine ⟨⟨k + 1, fun j => if j = s.site then some (.slice a' n' c') else f j, fun j => if j = s.site then a' else A j, by omega, by go_num, ?_⟩, ?_⟩
          · rw [take_snoc HS1.out]
            exact HST.out
          · simp [intOf]; omega
      · have hdc : decide (s.first ≤ s.last) = false := by simpa using hcond
        go_wp2
        refine ⟨⟨k + 1, f, A, by omega, by go_num, ?_⟩, ?_⟩
        · rw [take_snoc HS1.out]
          exact (HM.out.eqv ((Kept.refl _ wr).alloc _)).skip hcond
        · simp [intOf]; omega
    · obtain rfl : n = k := by omega
      rename World => wa
      obtain ⟨m, hm, hlen⟩ := HM.out.map.len Ybaf.underlying122 3
      have hmm2 : ∀ W (q : Int), (Instr.makeMap 51 (some (.int .i64 q))).run Ybaf.prog W = .ok (.map (some W.heap.size)) (W.alloc (.map #[] 0)) := fun W q => by kernel_rfl
      have hty : ys.take n = ys := List.take_of_length_le (by omega)
      have hMr := HM.out
      rw [hty] at hMr hm
      have HMR : Hid (RM w1 w1.heap.size ys wa f A) := hMr
      obtain ⟨D, hown, hhas, hat⟩ := hMr.map
      have HOWN : Hid (wa.ownsMap Ybaf.prog 39 rawElem w1.heap.size ys.length D) := hown
      have HHAS : Hid (∀ k, U64 k → Maps.has D (.int .u64 k) = (f k).isSome) := hhas
      have HAT : Hid (∀ k v, U64 k → f k = some v → ∀ d, D.atKey (.int .u64 k) d = .held v) := hat
      clear hMr hown hhas hat hty
      go_wp2_with (first | (at_range; refine wpList_range_own _ rfl (.tmp 42) 122 rfl 39 124 key39 Ybaf.underlying122 rawElem w1.heap.size ys.length D rfl (HOWN.out.alloc _) ?_; intro w0 hrg0 hg0 hs0; have HRG0 : Hid _ := hrg0; have HG0 : Hid _ := hg0; clear hrg0 hg0))
      have hsz : (wa.alloc (.map #[] 0)).heap.size = wa.heap.size + 1 := by simp
      rw [hsz] at hs0 HRG0 ⊢
      have hk00 : Kept (fun _ => False) (wa.alloc (.map #[] 0)) w0 := (Kept.refl _ _).grown HG0.out (fun k e => by cases e)
      have hk0 : Kept (fun _ => False) wa w0 := ((Kept.refl _ wa).alloc _).trans hk00
      have HK0 : Hid (Kept (fun _ => False) wa w0) := hk0
      have hL0 : LM w0 w1.heap.size wa.heap.size (wa.heap.size + 1) ys.length D f (runsOf ys) (Maps.has D) (Maps.size D) 0 w0 (fun _ => none) := by
        refine ⟨HRG0.out, fun k hU e => by rw [← HHAS.out k hU]; exact e, (VM.made wa).kept hk00 id, by have := HOWN.out.size_le; omega, fun k hU e1 e2 => ?_, fun k _ _ => rfl, Kept.refl _ _⟩
        rw [HHAS.out k hU, e1] at e2
        cases e2
      have HL0 : Hid (LM w0 w1.heap.size wa.heap.size (wa.heap.size + 1) ys.length D f (runsOf ys) (Maps.has D) (Maps.size D) 0 w0 (fun _ => none)) := hL0
      have hrows : ∀ k, U64 k → ∃ n c, (f k).getD (.slice none 0 0) = .slice (A k) n c ∧ Row Rn.cells 2 w0 (A k) n c (runsOf ys k) := fun k hU => by
        obtain ⟨n, c, e1, r1⟩ := HMR.out.row k hU
        exact ⟨n, c, e1, r1.kept hk0 (fun _ _ => id)⟩
      have HROWS : Hid (∀ k, U64 k → ∃ n c, (f k).getD (.slice none 0 0) = .slice (A k) n c ∧ Row Rn.cells 2 w0 (A k) n c (runsOf ys k)) := hrows
      have hml := HMR.out.map.lt
      clear hL0 hk00 hk0 hrows hmm2 hlen hsz
      go_frame
      go_loopw [8] (fun _ wq => ∃ (left : Lit → Bool) (cnt n2 : Nat) (g : Int → Option Value), Hid (LM w0 w1.heap.size wa.heap.size (wa.heap.size + 1) ys.length D f (runsOf ys) left cnt n2 wq g)) (fun _ wq => wq.rangeLeft w1.heap.size (wa.heap.size + 1))
      case atStart => exact ⟨_, _, _, _, HL0.out⟩
      case round =>
        obtain ⟨left, cnt, n2, g, HL⟩ := hrel
        go_wp2_with (first
          | (at_next; refine wpList_next_lm rfl (.tmp 43) rfl HAT.out HROWS.out HL.out rfl (fun hl0 => ?_) (fun x n3 c3 w2 cnt2 hU hlk hr3 hrg hlt2 hgr hsz hen => ?_))
          | fail)
        · go_ret
          have hL := HL.out
          have hk1 := HK1.out
          have hka := HKA.out
          have hkm := HMR.out.kept
          have hk0 := HK0.out
          have hkl := hL.kept
          refine ⟨_, n2, runsOf ys, rfl, ⟨g, hL.map, hL.map.lt, fun k hU => ?_⟩, fun k c _ => holds_named HP.out HO.out k c, ?_⟩
          · have hruns := (runsAt ys HO.out k).runs
            cases hf : (f k).isSome with
            | true =>
              obtain ⟨sb, e1, e2⟩ := hL.done k hU hf (hl0 _)
              exact ⟨some ⟨sb, 0, none⟩, by rw [e1]; rfl, e2.cset, hruns⟩
            | false =>
              refine ⟨none, by rw [hL.bare k hU hf]; rfl, .inl ⟨rfl, ?_⟩, hruns⟩
              obtain ⟨n5, c5, e5, r5⟩ := HMR.out.row k hU
              rw [Option.isSome_eq_false_iff, Option.isNone_iff_eq_none] at hf
              rw [hf] at e5
              simp only [Option.getD_none, Value.slice.injEq] at e5
              obtain ⟨_, e6, _⟩ := e5
              exact List.length_eq_zero_iff.1 (by rw [r5.len, ← e6])
          · have h1 := hk1.size
            have h2 := hka.size
            have h3 := hkm.size
            have h4 := hk0.size
            have h5 := hkl.size
            refine ⟨(((hkl.os.trans hk0.os).trans hkm.os).trans hk1.os).trans hka.os, (((hkl.tape.trans hk0.tape).trans hkm.tape).trans hk1.tape).trans hka.tape, (((hkl.output.trans hk0.output).trans hkm.output).trans hk1.output).trans hka.output, by omega, fun k hk _ => ?_⟩
            exact ((((hkl.block k (by omega) (by omega)).trans (hk0.block k (by omega) id)).trans (hkm.block k (by omega) id)).trans (hk1.block k (by omega) id)).trans (hka.block k hk id)
        · have hL := HL.out
          have hk0 := HK0.out
          have hAx : ∀ b, blkOf (A x) = some b → b < wa.heap.size := fun b e => by
            obtain ⟨n5, c5, e5, r5⟩ := HMR.out.row x hU
            exact r5.lt b e
          have hrw := (hr3.kept hL.kept (fun b e h => by have := hAx b e; omega)).grown hgr (fun b e e' => by cases e'; have := hAx _ e; omega)
          have hn3 : n3 ≤ 4096 := by
            have := hr3.len
            have := (runsAt ys HO.out x).len
            omega
          refine Calls.mono (cset_any (A x) n3 c3 (runsOf ys x) w2 hrw hn3) ?_
          rintro e w3 ⟨sb, rfl, hcs, hk3⟩
          have hv2 : VM w2 wa.heap.size n2 g := hL.map.eqv (hgr.block _ hL.map.lt (fun e => by have := Option.some.inj e; omega))
          have hv3 := hv2.kept hk3 id
          obtain ⟨w4, hput, hv4, hg4, hsz4⟩ := hv3.put Ybaf.underlying51 (by have := hL.few; unfold maxLen; omega) hU (.pointer (some ⟨sb, 0, none⟩))
          have hstep := hL.step (w1 := w2) (w2 := w3) (w3 := w4) (k := x) (sb := sb) (by omega) (by omega) (by omega) (by omega) (by omega) hU hlk hrg hlt2 hgr hk3 hcs hv4 hg4
          have HST : Hid _ := hstep
          clear hL hrw hcs hk3 hv2 hv3 hv4 hg4 hsz4 hstep hr3 hrg hgr hAx hk0
          go_wp2
          refine ⟨⟨_, _, _, _, HST.out⟩, ?_⟩
          rw [HST.out.rg.left_eq, HL.out.rg.left_eq]
          exact hlt2

end Go.Proofs.YbulkdyyyFmt
