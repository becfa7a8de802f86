/-
  Seat b6277aF: the document's own iterator: held.
-/
import Derived.Test.YbulkdyyyFmtRound
namespace Go.Proofs.YbulkdyyyFmt
open Go.RowKit Go.Shelf
set_option linter.unusedVariables false
set_option linter.unnecessarySimpa false
attribute [local go_sem] Oper.semAt_some
attribute [local go_sem] wide_fn wide_depth

theorem held_any (p : Option Addr) (w : World) :
    Calls Ybaf.prog 26 #[.pointer p] w fun e w' => e = .returned (.func (.func 43) #[] #[.pointer (some ⟨w.heap.size, 0, none⟩)]) ∧ w' = w.alloc (.cells #[.pointer p] 49) := by
  go_enter Ybaf.func26, Ybaf.ntmps26
  go_wp2
  go_ret
  exact ⟨rfl, rfl⟩

theorem len_any (b o : Nat) (n : Int) (w : World) (hc : w.cell? ⟨b, o + 1, none⟩ = some (.int .i64 n)) :
    Calls Ybaf.prog 29 #[.pointer (some ⟨b, o, none⟩)] w fun e w' => e = .returned (.int .i64 n) ∧ w' = w := by
  go_enter Ybaf.func29, Ybaf.ntmps29
  go_wp2
  go_ret
  exact ⟨rfl, rfl⟩

def lnEnc1 (x : Ln) : Array Value := #[.agg #[.slice x.a x.n x.c, .int .u32 x.clock, .string x.text]]

theorem cell_putLoop {W : World} {l : Nat} {r : Loop} {p : Addr} {v : Value} (hp : W.cell? p = some v) (hl : W.heap[l]? = some (.loop r)) (o : Obj) : (W.putObj l o).cell? p = some v := by
  have hne : p.block ≠ l := by
    rintro rfl
    simp [World.cell?, hl] at hp
  rw [World.cell?_of_block (w := W) (World.putObj_heap_other hne)]
  exact hp
theorem cell_putShut {W : World} {l : Nat} {ds : Option (List Deferred)} {p : Addr} {v : Value} (hp : W.cell? p = some v) (hl : W.heap[l]? = some (.deferred ds)) (o : Obj) : (W.putObj l o).cell? p = some v := by
  have hne : p.block ≠ l := by
    rintro rfl
    simp [World.cell?, hl] at hp
  rw [World.cell?_of_block (w := W) (World.putObj_heap_other hne)]
  exact hp
theorem cell_alloc' {W : World} {p : Addr} {v : Value} (hp : W.cell? p = some v) (o : Obj) : (W.alloc o).cell? p = some v := by
  rw [World.cell?_of_block (w := W) (Below.heap_alloc _ _ _ (World.block_lt_of_cell? W p hp))]
  exact hp

set_option maxRecDepth 100000 in
set_option maxHeartbeats 2000000 in
theorem held_iter {B fb hb db : Nat} {root : Option Addr} {vs : List Ln} (hn : vs.length ≤ 1000000) :
    Iter Ybaf.prog 43 #[.pointer (some ⟨hb, 0, none⟩)] lnEnc1 fb vs (fun W => W.cell? ⟨hb, 0, none⟩ = some (.pointer (some ⟨db, 0, none⟩)) ∧ W.cell? ⟨db, 19, none⟩ = some (.pointer root) ∧ W.cell? ⟨db, 24, none⟩ = some (.int .i64 0) ∧ RopeAt Ln.cells 3 B W root vs ∧ B ≤ fb ∧ boxBlk W fb = none ∧ hb ≠ fb ∧ db ≠ fb ∧ B ≤ W.heap.size) := by
  rintro l J W ⟨hc1, hc2, hc3, hrope, hBf, hnone, hhb, hdb, hB⟩ hfb hJ hrow hY h0
  have hdd : ∀ k : Nat, (Fence.wide.depth.isSome = true → 1 ≤ k) := fun k h => by cases h
  refine (callsIn_wide (n := 3)).1 (callsIn_of_wp_marks Ybaf.func43 rfl trivial ?_ rfl)
  simp only [Ybaf.ntmps43, List.size_toArray, List.length_cons, List.length_nil, Nat.reduceAdd, Nat.reduceSub, Array.replicate_succ, Array.replicate_zero, List.push_toArray, List.append_toArray, List.nil_append, List.cons_append]
  have HROPE : Hid (RopeAt Ln.cells 3 B W root vs) := hrope
  have HJ : Hid _ := hJ
  have HROW : Hid _ := hrow
  have HY : Hid _ := hY
  have H0 : Hid _ := h0
  have hl1 : hb < W.heap.size := World.block_lt_of_cell? W _ hc1
  have hl2 : db < W.heap.size := World.block_lt_of_cell? W _ hc2
  clear hrope hJ hrow hY h0
  gi_wp2
  refine CallsIn.mono (callsIn_wide.2 (all_any _ _)) ?_
  rintro e w' ⟨rfl, rfl⟩
  gi_wp2
  -- RANGE
  have hk3 : Kb fb W (((W.alloc (.cells #[.func (.yield l) #[] #[]] 130)).alloc (.cells #[.int .i64 0] 3)).alloc (.cells #[.pointer (some ⟨db, 19, none⟩)] 137)) :=
    (((Kb.refl fb W).alloc hfb _).alloc (by simp; omega) _).alloc (by simp; omega) _
  obtain ⟨w3, hw3⟩ : ∃ w3, ((W.alloc (.cells #[.func (.yield l) #[] #[]] 130)).alloc (.cells #[.int .i64 0] 3)).alloc (.cells #[.pointer (some ⟨db, 19, none⟩)] 137) = w3 := ⟨_, rfl⟩
  have hs3 : w3.heap.size = W.heap.size + 3 := by rw [← hw3]; simp
  have y0 : w3.cell? ⟨W.heap.size, 0, none⟩ = some (.func (.yield l) #[] #[]) := by
    rw [← hw3]
    exact cell_alloc' (cell_alloc' (by simpa using (Blk.new W #[.func (.yield l) #[] #[]] 130).cell 0) _) _
  have y1 : w3.cell? ⟨W.heap.size + 1, 0, none⟩ = some (.int .i64 0) := by
    rw [← hw3]
    exact cell_alloc' (by simpa using (Blk.new (W.alloc (.cells #[.func (.yield l) #[] #[]] 130)) #[.int .i64 0] 3).cell 0) _
  have y2 : w3.cell? ⟨W.heap.size + 2, 0, none⟩ = some (.pointer (some ⟨db, 19, none⟩)) := by
    rw [← hw3]
    simpa using (Blk.new ((W.alloc (.cells #[.func (.yield l) #[] #[]] 130)).alloc (.cells #[.int .i64 0] 3)) #[.pointer (some ⟨db, 19, none⟩)] 137).cell 0
  rw [hw3] at hk3 ⊢
  have hnb3 : boxBlk w3 fb = none := by
    rw [← hnone]
    refine boxBlk_eqv ?_
    rw [← hw3]
    exact ((Below.heap_alloc _ _ _ (by simp; omega)).trans (Below.heap_alloc _ _ _ (by simp; omega))).trans (Below.heap_alloc _ _ _ hfb)
  have hc1' := hk3.cell hc1 hhb (by rw [hnone]; simp)
  have hc2' := hk3.cell hc2 hdb (by rw [hnone]; simp)
  have hc3' := hk3.cell hc3 hdb (by rw [hnone]; simp)
  have hrope3 := HROPE.out.kept (hk3.kept (B := B) ⟨hBf, fun k e => by rw [hnone] at e; cases e⟩)
  have hJ3 : J [] w3 := by rw [← hw3]; exact HJ.out.alloc _ _ _ (HJ.out.alloc _ _ _ (HJ.out.alloc _ _ _ H0.out))
  clear hw3
  have hcell : ∀ {X : World} {p : Addr} {v : Value}, Kb fb w3 X → w3.cell? p = some v → p.block ≠ fb → X.cell? p = some v := fun hk hp hne => hk.cell hp hne (by rw [hnb3]; simp)
  refine rangeFunc_go (gf := 57) (lb := #[.pointer (some ⟨W.heap.size + 2, 0, none⟩)]) rfl (enters_of Ybaf.func57 (by kernel_rfl) rfl) (encs := lnEnc) (fun _ => rfl) (fb := fb) (all_iter (B := B) (rb := W.heap.size + 2) (db := db) (o := 19) (root := root) (vs := vs) hn) (by omega) ?pre
    (fun pre X => J (pre.map Prod.snd) X ∧ Kb fb w3 X) ?own (fun pre X k h e => HROW.out _ _ _ h.1 e) ⟨hJ3, Kb.refl _ _⟩
    (fun x a1 X => ∃ lb, a1 = { tmps := #[.func (.yield l) #[] #[], .pointer (some ⟨hb, 0, none⟩), .pointer (some ⟨W.heap.size, 0, none⟩), .pointer (some ⟨W.heap.size + 1, 0, none⟩), undef, .pointer (some ⟨lb, 0, none⟩), .pointer (some ⟨db, 0, none⟩), .pointer (some ⟨db, 0, none⟩), .pointer (some ⟨db, 19, none⟩), .func (.func 57) #[] #[.pointer (some ⟨W.heap.size + 2, 0, none⟩)], .int .i64 x.1, .agg #[.slice x.2.a x.2.n x.2.c, .int .u32 x.2.clock, .string x.2.text], undef, undef, undef, undef, undef, undef, undef, undef, undef, undef, undef, undef, undef, undef, undef, undef, undef, undef, undef, undef, undef, undef, undef, undef, undef, undef, undef, undef, undef, undef, undef, undef], defers := [] } ∧ X.cell? ⟨lb, 0, none⟩ = some (.slice x.2.a x.2.n x.2.c) ∧ X.cell? ⟨lb, 1, none⟩ = some (.int .u32 x.2.clock) ∧ X.cell? ⟨lb, 2, none⟩ = some (.string x.2.text)) ?ownA ?assign ?body ?done
  case pre =>
    intro o1 o2
    have hka : Kb fb w3 ((w3.alloc o1).alloc o2) := ((Kb.refl fb w3).alloc (by omega) _).alloc (by simp; omega) _
    refine ⟨cell_alloc' (cell_alloc' y2 _) _, cell_alloc' (cell_alloc' hc2' _) _, hrope3.kept (hka.kept ⟨hBf, fun k e => by rw [hnb3] at e; cases e⟩), ⟨hBf, fun k e => ?_⟩, by simp; omega⟩
    rcases hka.new k e with e1 | e1
    · rw [hnb3] at e1; cases e1
    · omega
  case own =>
    refine ⟨fun pre X o h => ⟨HJ.out.alloc _ _ _ h.1, h.2.alloc (by have := h.2.size; omega) _⟩, fun pre X q h => ⟨HJ.out.drewN _ _ _ h.1, h.2.drewN _⟩, fun pre X l r r' hl hr h => ⟨HJ.out.loop _ _ _ _ _ (by omega) hr h.1, h.2.put hl (by omega) _⟩, fun pre X l ds o hl hr h => ⟨HJ.out.shut _ _ _ _ _ (by omega) hr h.1, h.2.put hl (by omega) _⟩⟩
  case ownA =>
    intro x a1
    refine ⟨fun _ X o ⟨lb, h0, h1, h2, h3⟩ => ⟨lb, h0, cell_alloc' h1 _, cell_alloc' h2 _, cell_alloc' h3 _⟩, fun _ X q h => h, fun _ X l r r' hl hr ⟨lb, h0, h1, h2, h3⟩ => ⟨lb, h0, cell_putLoop h1 hr _, cell_putLoop h2 hr _, cell_putLoop h3 hr _⟩, fun _ X l ds o hl hr ⟨lb, h0, h1, h2, h3⟩ => ⟨lb, h0, cell_putShut h1 hr _, cell_putShut h2 hr _, cell_putShut h3 hr _⟩⟩
  case assign =>
    rintro l' pre x X m ⟨hj, hk⟩ hpx
    simp only [lnEnc]
    have HJX : Hid _ := hj
    have HKX : Hid (Kb fb w3 X) := hk
    clear hj hk hcell
    gi_wp2
    have hfx : fb < X.heap.size := by have := HKX.out.size; omega
    refine ⟨⟨HJ.out.alloc _ _ _ HJX.out, HKX.out.alloc hfx _⟩, (Kb.refl fb X).alloc hfx _, X.heap.size, rfl, ?_, ?_, ?_⟩
    · simpa using (Blk.new X #[.slice x.2.a x.2.n x.2.c, .int .u32 x.2.clock, .string x.2.text] 48).cell 0
    · simpa using (Blk.new X #[.slice x.2.a x.2.n x.2.c, .int .u32 x.2.clock, .string x.2.text] 48).cell 1
    · simpa using (Blk.new X #[.slice x.2.a x.2.n x.2.c, .int .u32 x.2.clock, .string x.2.text] 48).cell 2
  case body =>
    rintro l' pre x a1 X m ⟨hj, hk⟩ ⟨lb, rfl, b0, b1, b2⟩ hpx
    have HPX : Hid (pre ++ [x] <+: idx 0 vs) := hpx
    clear hpx
    have z0 := hcell hk y0 (by simp; omega)
    have z1 := hcell hk y1 (by simp; omega)
    have z2 := hcell hk hc1' hhb
    have z3 := hcell hk hc3' hdb
    have HJX : Hid _ := hj
    have HKX : Hid (Kb fb w3 X) := hk
    clear hj hk hcell
    gi_wp2
    gi_loopw [12] (fun _ wr => wr = X) (fun _ _ => 0)
    case atStart => rfl
    case round =>
      obtain rfl := hrel
      gi_wp2
      refine region_quiet_round (C := fun w' => ∃ n, w' = wr.drewN n) (by kernel_rfl) (by kernel_rfl) (by kernel_rfl) ⟨1, rfl⟩ ?_
      repeat (gi_big_quiet_step ((gi_at_call 29; refine CallsIn.quiet_of_same (callsIn_wide.2 (len_any db 23 0 _ z3)))))
      refine wpQuietIn_nil ?_
      intro _ hw'
      obtain ⟨nq, hw''⟩ := hw'
      subst hw''
      have hpm : pre.map Prod.snd ++ [x.2] <+: vs := by
        have := List.IsPrefix.map Prod.snd HPX.out
        rw [idx_map, List.map_append] at this
        exact this
      obtain ⟨fn, tmps, assign, body, hy, hR⟩ := HY.out (pre.map Prod.snd) x.2 (wr.drewN nq) (m - 1) (HJ.out.drewN _ _ _ HJX.out) hpm
      simp only [lnEnc1] at hy
      have HRR : Hid _ := hR
      clear hpm hR
      gi_wp2
      refine RoundIn.mono (F := Fence.wide) HRR.out ?_
      rintro e W3 ⟨rfl, hJ3, hk3⟩
      have HJ3 : Hid _ := hJ3
      have HK3 : Hid (Kb fb wr W3) := ((Kb.refl fb wr).drewN nq).trans hk3
      clear hJ3 hk3
      gi_wp2
      exact ⟨⟨HJ3.out, HKX.out.trans HK3.out⟩, HK3.out⟩
  case done =>
    rintro D X hD ⟨hj, hk⟩ hk2 hdef
    have HJX : Hid _ := hj
    have HKX : Hid (Kb fb w3 X) := hk
    clear hj hk hk2 hcell
    gi_wp2
    refine ⟨by simp, .inl ⟨_, _, rfl, run_takeDeferred hdef, ?_⟩⟩
    refine ⟨_, results_none rfl _ _ _, ⟨_, rfl⟩, ?_, (hk3.trans HKX.out).put (by omega) hfb _⟩
    refine HJ.out.shut _ _ _ _ _ (by omega) hdef ?_
    have := HJX.out
    rwa [idx_map] at this

end Go.Proofs.YbulkdyyyFmt
