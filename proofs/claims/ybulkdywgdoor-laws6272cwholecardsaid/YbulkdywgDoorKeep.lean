/-
  Seat b6272aD: the conduct's Keep.
-/
import Derived.Test.YbulkdywgDoorState
namespace Go.Proofs.YbulkdywgDoor
open Go.RowKit
set_option linter.unusedVariables false
set_option maxRecDepth 100000

def keepL (its : List It) (x : It) : List It := if 0 ≤ hiOf its x.k then its.set (hiOf its x.k).toNat x else its ++ [x]

theorem one_cells4 {w : World} {b : Nat} {v0 v1 v2 v3 : Value} (h : Blk w b #[v0, v1, v2, v3]) : ∀ j u, [v0, v1, v2, v3][j]? = some u → w.cell? ((⟨b, 0, none⟩ : Addr).add j) = some u := by
  intro j u hu
  rw [Addr.add_lit, h.cell, Nat.zero_add]
  simpa using hu
theorem one_cells3 {w : World} {b : Nat} {v0 v1 v2 : Value} (h : Blk w b #[v0, v1, v2]) : ∀ j u, [v0, v1, v2][j]? = some u → w.cell? ((⟨b, 0, none⟩ : Addr).add j) = some u := by
  intro j u hu
  rw [Addr.add_lit, h.cell, Nat.zero_add]
  simpa using hu
theorem size_setCell (w : World) (a : Addr) (v : Value) : (w.setCell a v).heap.size = w.heap.size := by simp [World.setCell]
theorem Blk.new (w : World) (cs : Array Value) (e : TypeId) : Blk (w.alloc (.cells cs e)) w.heap.size cs := ⟨e, heap_alloc_new w _⟩

set_option maxHeartbeats 1000000 in
theorem keep_any (G : Nat → Prop) (nb cb tb mb : Nat) (bits : Int) (nm : Nat) (s : MS) (x : It) (w : World) (h : NAt w G nb cb tb mb 0 bits nm s) (hlen : s.held.length ≤ 10000) :
    Calls Ybad.prog 77 #[.pointer (some ⟨cb, 0, none⟩), .string x.k, .string x.v, .agg #[.int .u64 x.c, .int .i32 x.r]] w fun e w' => e = .returned (.tuple #[]) ∧ NAt w' G nb cb tb mb 1 bits nm { s with held := keepL s.held x } ∧ Kept G w w' := by
  obtain ⟨cs, ah, nh, ch, ar, nr, cr, h⟩ := h
  have c0 := h.q0
  have c1 := h.q1
  have f1 := h.cond.free 1
  have hlt := h.cond.lt
  have HN : Hid (NC w G nb cb tb mb 0 bits s cs nm ah nh ch ar nr cr) := h
  have HL : Hid (s.held.length ≤ 10000) := hlen
  clear h hlen
  go_enter Ybad.func77, Ybad.ntmps77
  go_wp2_with fail
  have hn1 := (HN.out.setKeeps 1).quiet ((Kept.refl _ _).alloc (.cells #[.int .u64 x.c, .int .i32 x.r] 35))
  refine (idx_any cb ah nh ch s.held x.k ((w.setCell ⟨cb, 1, none⟩ (.int .i64 1)).alloc (.cells #[.int .u64 x.c, .int .i32 x.r] 35)) hn1.q0 hn1.held.items).mono ?_
  rintro e w2 ⟨rfl, hw2⟩
  rw [← hw2] at hn1
  have hbx : Blk w2 w.heap.size #[.int .u64 x.c, .int .i32 x.r] := by rw [hw2]; have := Blk.new (w.setCell ⟨cb, 1, none⟩ (.int .i64 1)) #[.int .u64 x.c, .int .i32 x.r] 35; rwa [size_setCell] at this
  have HK2 : Hid (Kept G w w2) := by rw [hw2]; exact ((Kept.refl G w).setCell (p := ⟨cb, 1, none⟩) HN.out.g.2.1 _).alloc _
  have x0 := hbx.cell 0
  have x1 := hbx.cell 1
  simp at x0 x1
  have d0 := hn1.q0
  have g0 := hn1.cond.free 0
  have HN1 : Hid (NC w2 G nb cb tb mb 1 bits s cs nm ah nh ch ar nr cr) := hn1
  have HBX : Hid (Blk w2 w.heap.size #[.int .u64 x.c, .int .i32 x.r]) := hbx
  clear hn1 hw2 hbx c0 c1 f1 hlt
  rcases hiOf_cases s.held x.k with ⟨e1, e2⟩ | ⟨j, y, e1, e2, e3⟩
  · have HE : Hid (keepL s.held x = s.held ++ [x]) := by show keepL s.held x = _; unfold keepL; rw [e1]; rfl
    rw [e1]
    clear e1 e2
    obtain ⟨i0, hi0, hz0, hz1, hz2⟩ := info_parts info37
    have HA : Hid (NC (w2.alloc (.cells #[.string x.k, .string x.v, .int .u64 x.c, .int .i32 x.r] 37)) G nb cb tb mb 1 bits s cs nm ah nh ch ar nr cr) := HN1.out.quiet ((Kept.refl _ w2).alloc _)
    have HNB : Hid (Blk (w2.alloc (.cells #[.string x.k, .string x.v, .int .u64 x.c, .int .i32 x.r] 37)) w2.heap.size #[.string x.k, .string x.v, .int .u64 x.c, .int .i32 x.r]) := Blk.new _ _ _
    have hnh : nh ≤ 10000 := by have := HN1.out.held.len; have := HL.out; omega
    have HCQ : Hid (some cb ≠ blkOf ah) := fun e => (HN1.out.gh cb e.symm).2.2.1 rfl
    have hcl : cb < w2.heap.size := HN1.out.cond.lt
    have hxl : w.heap.size < w2.heap.size := HBX.out.lt
    go_wp2
    go_region_law (refine step_append_row (by rfl) (.tmp 35) (.tmp 40) 30 (by rfl) it_len it_one 37 i0 (.agg #[.string ⟨#[]⟩, .string ⟨#[]⟩, .int .u64 0, .int .i32 0]) 48 und30 hi0 hz0 hz1 hz2 rfl ah nh ch s.held (by rfl) (by exact HA.out.held.eqv (fun _ _ => rfl)) ⟨w2.heap.size, 0, none⟩ 1 1 [x] (by rfl) rfl (by exact one_cells4 HNB.out) (by omega) (by omega) ?_; intro a' c2 w3 hrow hgrow hnew; have hg3 := grown_drew hgrow; have hbl := HA.out.cond.grown hg3 HCQ.out; have z1 : w3.cell? ⟨cb, 0, none⟩ = some (.slice ah nh ch) := hbl.cell 0; have z2 := hbl.free 0; have HR : Hid _ := hrow; have HG : Hid _ := hg3; have HW : Hid _ := hnew; clear hrow hgrow hnew hbl hg3)
    all_goals
      go_wp2
      refine bodyPost_end (results_none rfl _ _ _) rfl ?_
      refine ⟨rfl, ?_, ((HK2.out.alloc _).grown HG.out (fun k e => (HN1.out.gh k e).1)).setCell (p := ⟨cb, 0, none⟩) HN1.out.g.2.1 _⟩
      rw [HE.out]
      exact ⟨_, _, _, _, _, _, _, HA.out.setHeld HR.out HG.out HW.out⟩
  · have HE : Hid (keepL s.held x = s.held.set j x) := by show keepL s.held x = _; unfold keepL; rw [e1, if_pos (by omega)]; rfl
    obtain ⟨h1, h2, h3⟩ := HN1.out.held.items
    have hjl := (List.getElem?_eq_some_iff.1 e2).1
    rcases h3 with h0 | ⟨b1, o1, rfl, hcell⟩
    · omega
    obtain ⟨q0, q1, q2, q3⟩ := hcell j y e2
    have jn : (j : Int) < (nh : Int) := by omega
    have HJ : Hid (j < nh) := by show j < nh; omega
    obtain ⟨fr0, fr1, fr2, fr3⟩ : w2.frozen? ⟨b1, o1 + j * 4, none⟩ = false ∧ w2.frozen? ⟨b1, o1 + j * 4 + 1, none⟩ = false ∧ w2.frozen? ⟨b1, o1 + j * 4 + 2, none⟩ = false ∧ w2.frozen? ⟨b1, o1 + j * 4 + 3, none⟩ = false := by
      rcases HN1.out.held.row with ⟨h0, _⟩ | ⟨b', o', cs', h1, h2, _⟩
      · cases h0
      · cases h1; exact ⟨h2.free _, h2.free _, h2.free _, h2.free _⟩
    clear hcell h1 h2 e2 e3 hjl
    rw [e1]
    go_wp2
    go_region
    all_goals
      go_wp2
      refine bodyPost_ret (results_none rfl _ _ _) rfl ?_
      rw [HE.out]
      have hg : w2.grownBy (((((w2.setCell ⟨b1, o1 + j * 4, none⟩ (.string x.k)).setCell ⟨b1, o1 + j * 4 + 1, none⟩ (.string x.v)).setCell ⟨b1, o1 + j * 4 + 2, none⟩ (.int .u64 x.c)).setCell ⟨b1, o1 + j * 4 + 3, none⟩ (.int .i32 x.r))) (blkOf (some ⟨b1, o1, none⟩)) :=
        grown_set (grown_set (grown_set (grown_set (grown_refl _ _) _ _) _ _) _ _) _ _
      refine ⟨rfl, ⟨_, _, _, _, _, _, _, (HN1.out.setItems (HN1.out.held.setItem j HJ.out x) hg).quiet (Kept.refl _ _).drew⟩, (HK2.out.grown hg (fun k e => (HN1.out.gh k e).1)).drew⟩

end Go.Proofs.YbulkdywgDoor
