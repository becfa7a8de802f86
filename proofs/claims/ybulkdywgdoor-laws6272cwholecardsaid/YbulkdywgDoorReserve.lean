/-
  Seat b6272aD: the node's reserve.
-/
import Derived.Test.YbulkdywgDoorKeeps
import Derived.Test.YbulkdywgDoorBox
import Derived.Deep.DeepCutAuto
namespace Go.Proofs.YbulkdywgDoor
open Go.RowKit
set_option linter.unusedVariables false
set_option maxRecDepth 100000

def holdOf (bits : Int) : Int := 2 * (2 * (2 * bits + 1) * 9)

theorem limit_any (bits : Int) (hb : 0 ≤ bits ∧ bits < 16) (w : World) :
    Calls Ybad.prog 31 #[.agg #[.int .i64 bits]] w fun e w' => e = .returned (.int .i64 (2 * (2 * bits + 1) * 9)) ∧ Kept (fun _ => False) w w' := by
  obtain ⟨h0, h1⟩ := hb
  have e1 : IntKind.i64.wrap (2 * bits) = 2 * bits := w64 (by omega) (by omega)
  have e2 : IntKind.i64.wrap (2 * bits + 1) = 2 * bits + 1 := w64 (by omega) (by omega)
  have e3 : IntKind.i64.wrap (2 * (2 * bits + 1)) = 2 * (2 * bits + 1) := w64 (by omega) (by omega)
  have e4 : IntKind.i64.wrap (2 * (2 * bits + 1) * 9) = 2 * (2 * bits + 1) * 9 := w64 (by omega) (by omega)
  go_enter Ybad.func31, Ybad.ntmps31
  go_wp2
  go_ret
  refine ⟨?_, (Kept.refl _ w).alloc _⟩
  first | rfl | (simp; try omega)

theorem round_any (nb : Nat) (bits : Int) (hb : 0 ≤ bits ∧ bits < 16) (w : World) (hc : w.cell? ⟨nb, 3, none⟩ = some (.int .i64 bits)) :
    Calls Ybad.prog 26 #[.pointer (some ⟨nb, 0, none⟩)] w fun e w' => e = .returned (.int .i64 (2 * (2 * bits + 1) * 9)) ∧ Kept (fun _ => False) w w' := by
  go_enter Ybad.func26, Ybad.ntmps26
  go_wp2_with fail
  refine (limit_any bits hb w).mono ?_
  rintro e w1 ⟨rfl, hk⟩
  have HK : Hid _ := hk
  clear hk
  go_wp2
  go_ret
  exact ⟨rfl, HK.out⟩

theorem roomHold_any (nb : Nat) (bits : Int) (hb : 0 ≤ bits ∧ bits < 16) (w : World) (hc : w.cell? ⟨nb, 3, none⟩ = some (.int .i64 bits)) :
    Calls Ybad.prog 23 #[.pointer (some ⟨nb, 0, none⟩)] w fun e w' => e = .returned (.int .i64 (holdOf bits)) ∧ Kept (fun _ => False) w w' := by
  have e4 : IntKind.i64.wrap (2 * (2 * (2 * bits + 1) * 9)) = 2 * (2 * (2 * bits + 1) * 9) := w64 (by omega) (by omega)
  go_enter Ybad.func23, Ybad.ntmps23
  go_wp2_with fail
  refine (round_any nb bits hb w hc).mono ?_
  rintro e w1 ⟨rfl, hk⟩
  have HK : Hid _ := hk
  clear hk
  go_wp2
  go_ret
  exact ⟨rfl, HK.out⟩

/-- A call of roomHold as a step of a region that draws. -/
theorem step_roomHold {w : World} {ops : Array Oper} {o : Oper} {a : Act} {K : Act → World → Prop} {Q : Exit → Act → World → Prop} {E : Prop} (hgd : o.guard = none) (s : Operand)
    (ho : o.op = .call { callee := .value (.func 23), args := #[s], argTypes := #[67] }) (nb : Nat) (bits : Int) (hb : 0 ≤ bits ∧ bits < 16) (hs : a.eval s = .pointer (some ⟨nb, 0, none⟩)) (hc : w.cell? ⟨nb, 3, none⟩ = some (.int .i64 bits))
    (h : ∀ w', Kept (fun _ => False) w w' → K (a.put o.dst (.int .i64 (holdOf bits))) w') : if Region.wanted o (yielded ops a.tmps) = true then Oper.wp Ybad.prog o a w K Q else E := by
  have hw : Region.wanted o (yielded ops a.tmps) = true := by simp [Region.wanted, hgd]
  rw [if_pos hw]
  have hf : a.eval (.func 23) = .func (.func 23) #[] #[] := rfl
  have hcall : (execOp a.eval o).run Ybad.prog w = (callFunc 23 #[.pointer (some ⟨nb, 0, none⟩)]).run Ybad.prog w := by
    simp [execOp, ho, resolve, invoke, hs, hf, Deferred.ofValue]
  have hgo : (callFunc 23 #[.pointer (some ⟨nb, 0, none⟩)]).run Ybad.prog w = .ok (.enter 23 #[.pointer (some ⟨nb, 0, none⟩)]) w := by kernel_rfl
  unfold Oper.wp
  rw [hcall, hgo]
  simp only [Oper.upon]
  refine (roomHold_any nb bits hb w hc).mono ?_
  rintro e w' ⟨rfl, hk⟩
  exact h w' hk

/-- A call of Now as a step of a region that draws. -/
theorem step_now {w : World} {ops : Array Oper} {o : Oper} {a : Act} {K : Act → World → Prop} {Q : Exit → Act → World → Prop} {E : Prop} (hgd : o.guard = none) (s : Operand)
    (ho : o.op = .call { callee := .invoke s "Now", args := #[], argTypes := #[] }) (tb : Nat) (now : Int) (hs : a.eval s = .iface 60 (.pointer (some ⟨tb, 0, none⟩))) (hc : w.cell? ⟨tb, 0, none⟩ = some (.int .i64 now))
    (h : K (a.put o.dst (.int .i64 now)) w) : if Region.wanted o (yielded ops a.tmps) = true then Oper.wp Ybad.prog o a w K Q else E := by
  have hw : Region.wanted o (yielded ops a.tmps) = true := by simp [Region.wanted, hgd]
  rw [if_pos hw]
  have hcm : (callMethod (.iface 60 (.pointer (some ⟨tb, 0, none⟩))) "Now" #[]).run Ybad.prog w = .ok (.enter 72 #[.pointer (some ⟨tb, 0, none⟩)]) w := by kernel_rfl
  have hcall : (execOp a.eval o).run Ybad.prog w = .ok (.enter 72 #[.pointer (some ⟨tb, 0, none⟩)]) w := by
    simp [execOp, ho, resolve, invoke, hs, hcm]
  unfold Oper.wp
  rw [hcall]
  simp only [Oper.upon]
  refine (now_any tb w now hc).mono ?_
  rintro e w' ⟨rfl, rfl⟩
  exact h

def reserveB (s : MS) (o q : Int) (key : ByteArray) : Bool := if ours s o q key then true else if 0 ≤ hiOf s.held key then true else fits (weigh s)
def reserved (s : MS) (bits o q : Int) (key : ByteArray) : MS := { s with res := setR s.res o q key, rv := s.rv ++ [⟨o, q, IntKind.i64.wrap (s.now + holdOf bits)⟩] }
def reserveS (s : MS) (bits o q : Int) (key : ByteArray) : MS :=
  if ours s o q key then s else if 0 ≤ hiOf s.held key then s else if fits (weigh s) then reserved (weigh s) bits o q key else weigh s

theorem weigh_now (s : MS) : (weigh s).now = s.now := by unfold weigh; simp only []; split <;> rfl
theorem weigh_held (s : MS) : (weigh s).held = s.held := by unfold weigh; simp only []; split <;> rfl

set_option maxHeartbeats 4000000 in
theorem reserve_core (G : Nat → Prop) (nb cb tb mb : Nat) (keeps bits : Int) (nm : Nat) (s : MS) (o q : Int) (key : ByteArray) (w : World) (h : NAt w G nb cb tb mb keeps bits nm s) (h4 : ∀ r ∈ s.rv, In4 r.o r.q) (hnm : nm ≤ 2000000) (ho4 : In4 o q) (hks : key.size ≤ maxLen) (hb : 0 ≤ bits ∧ bits < 16) (hrl : (weigh s).rv.length ≤ 10000) :
    Calls Ybad.prog 20 #[.pointer (some ⟨nb, 0, none⟩), opV o q, .string key] w fun e w' => e = .returned (.bool (reserveB s o q key)) ∧ NAt w' (boxG G w.heap.size) nb cb tb mb keeps bits (nm + 1) (reserveS s bits o q key) ∧ Kept (boxG G w.heap.size) w w' := by
  obtain ⟨cs, ah, nh, ch, ar, nr, cr, h⟩ := h
  have hn1 := h.boxed (.cells #[.int .i32 o, .int .u32 q] 43)
  obtain ⟨G', hG'⟩ : ∃ G', G' = boxG G w.heap.size := ⟨_, rfl⟩
  have HGX : Hid (¬ G' w.heap.size) := fun hx => by rw [hG'] at hx; exact hx.2 rfl
  rw [← hG'] at hn1 ⊢
  have HK1 : Hid (Kept G' w (w.alloc (.cells #[.int .i32 o, .int .u32 q] 43))) := (Kept.refl G' w).alloc _
  have HBX : Hid (Blk (w.alloc (.cells #[.int .i32 o, .int .u32 q] 43)) w.heap.size #[.int .i32 o, .int .u32 q]) := Blk.new w #[.int .i32 o, .int .u32 q] 43
  have HF : Hid (∀ r ∈ s.rv, In4 r.o r.q) := h4
  have HNM : Hid (nm ≤ 2000000) := hnm
  have HO4 : Hid (In4 o q) := ho4
  have HKS : Hid (key.size ≤ maxLen) := hks
  have HB : Hid (0 ≤ bits ∧ bits < 16) := hb
  have HRL : Hid ((weigh s).rv.length ≤ 10000) := hrl
  have hlt := h.blk.lt
  have c86 := h.d86
  have hmh := meth_holds
  have HL : Hid (∀ n : Nat, (Instr.lookup 39 (.map (some mb)) (.agg #[.int .i32 o, .int .u32 q]) true).run Ybad.prog ((w.alloc (.cells #[.int .i32 o, .int .u32 q] 43)).drewN n) = .ok (.tuple #[.string (lookR s.res o q), .bool (s.res.any (isOp o q))]) ((w.alloc (.cells #[.int .i32 o, .int .u32 q] 43)).drewN n)) :=
    fun n => (hn1.map.eqv (w' := (w.alloc (.cells #[.int .i32 o, .int .u32 q] 43)).drewN n) rfl).look ho4
  have c61 := h.d61
  have HN1 : Hid (NC (w.alloc (.cells #[.int .i32 o, .int .u32 q] 43)) G' nb cb tb mb keeps bits s cs nm ah nh ch ar nr cr) := hn1
  clear h h4 hnm ho4 hn1 hks hb hrl hG'
  unfold opV
  by_cases ho : ours s o q key = true
  · have hany : s.res.any (isOp o q) = true := by
      unfold ours at ho
      exact (Bool.and_eq_true_iff.1 ho).1
    have hkey : ((lookR s.res o q).toList == key.toList) = true := by
      unfold ours at ho
      exact (Bool.and_eq_true_iff.1 ho).2
    have HBB : Hid (reserveB s o q key = true ∧ reserveS s bits o q key = s) := ⟨if_pos ho, if_pos ho⟩
    have hl := HL.out
    rw [hany] at hl
    clear hany ho
    go_enter Ybad.func20, Ybad.ntmps20
    go_wp2_with fail
    go_quiet (fail)
    clear hl
    go_wp2
    go_ret
    rw [HBB.out.1, HBB.out.2]
    exact ⟨rfl, ⟨_, _, _, _, _, _, _, (HN1.out.mapMono (Nat.le_succ _)).quiet ((Kept.refl _ _).drewN _)⟩, HK1.out.drewN _⟩
  · have HO : Hid (¬ ours s o q key = true) := ho
    clear ho
    go_enter Ybad.func20, Ybad.ntmps20
    have hl := HL.out
    go_wp2_with fail
    by_cases hany : s.res.any (isOp o q) = true
    · have hkey : ((lookR s.res o q).toList == key.toList) = false := by
        have := HO.out
        unfold ours at this
        rw [hany, Bool.true_and] at this
        simpa using this
      rw [hany] at hl
      clear hany
      go_quiet (fail)
      clear hl
      obtain ⟨w0, hw0⟩ : ∃ w0, w0 = (w.alloc (.cells #[.int .i32 o, .int .u32 q] 43)).drewN nq := ⟨_, rfl⟩
      rw [← hw0]
      have hn0 : NC w0 G' nb cb tb mb keeps bits s cs nm ah nh ch ar nr cr := by rw [hw0]; exact HN1.out.quiet ((Kept.refl _ _).drewN _)
      have hbx0 : Blk w0 w.heap.size #[.int .i32 o, .int .u32 q] := by rw [hw0]; exact HBX.out
      have HK0 : Hid (Kept G' w w0) := by rw [hw0]; exact HK1.out.drewN _
      have HN0 : Hid _ := hn0
      have HBX0 : Hid _ := hbx0
      have y61 := hn0.d61
      clear hn0 hbx0 hw0 c86 c61 HL hlt
      go_wp2_with fail
      refine (holds_any cb ah nh ch s.held key w0 HN0.out.q0 HN0.out.held.items).mono ?_
      rintro e w1 ⟨rfl, rfl⟩
      rcases hiOf_cases s.held key with ⟨e1, e2⟩ | ⟨j, x, e1, e2, e3⟩
      · have HBB : Hid (reserveB s o q key = fits (weigh s) ∧ reserveS s bits o q key = if fits (weigh s) then reserved (weigh s) bits o q key else weigh s) :=
          ⟨(if_neg HO.out).trans (if_neg (by rw [e1]; decide)), (if_neg HO.out).trans (if_neg (by rw [e1]; decide))⟩
        have HRB : Hid (roomB s key = fits (weigh s) ∧ roomS s key = weigh s) := ⟨if_neg (by rw [e1]; decide), if_neg (by rw [e1]; decide)⟩
        have hd : decide ((0 : Int) ≤ hiOf s.held key) = false := by rw [e1]; decide
        rw [hd]
        clear e1 e2 hd y61
        go_wp2_with fail
        refine (hasRoom_any G' nb cb tb mb keeps bits nm s key w1 ⟨_, _, _, _, _, _, _, HN0.out⟩ HF.out HNM.out).mono ?_
        rintro e w2 ⟨rfl, hm2, hk2⟩
        rw [HRB.out.1]
        rw [HRB.out.2] at hm2
        have HK2 : Hid (Kept G' w w2) := HK0.out.trans hk2
        have hbx2 : Blk w2 w.heap.size #[.int .i32 o, .int .u32 q] := Blk.kept HBX0.out hk2 HGX.out
        clear hk2
        by_cases hfit : fits (weigh s) = true
        · obtain ⟨t, ht⟩ : ∃ t, t = weigh s := ⟨_, rfl⟩
          have HBC : Hid (reserveB s o q key = true ∧ reserveS s bits o q key = reserved t bits o q key) := by
            have h1 := HBB.out.1
            have h2 := HBB.out.2
            rw [if_pos hfit, ← ht] at h2
            rw [hfit] at h1
            exact ⟨h1, h2⟩
          have HTR : Hid (t.rv.length ≤ 10000) := by rw [ht]; exact HRL.out
          rw [← ht] at hm2
          rw [hfit]
          clear hfit ht
          obtain ⟨cs2, ah2, nh2, ch2, ar2, nr2, cr2, hm2⟩ := hm2
          have HM2 : Hid (NC w2 G' nb cb tb mb keeps bits t cs2 nm ah2 nh2 ch2 ar2 nr2 cr2) := hm2
          obtain ⟨w3, hput, hmap3, hgrow3, -⟩ := (hm2.map.eqv (w' := w2.drew) rfl).put HO4.out HKS.out (by have := HNM.out; simp only [maxLen]; omega)
          have hput' : (Instr.mapUpdate 39 (.map (some mb)) (.agg #[.int .i32 o, .int .u32 q]) (.string key)).run Ybad.prog w2.drew = .ok () w3 := hput
          have hg3 := grown_drew hgrow3
          have hn3 := hm2.setMap hmap3 hg3
          have hbx3 : Blk w3 w.heap.size #[.int .i32 o, .int .u32 q] := hbx2.grown hg3 (fun e => HGX.out (by cases e; exact hm2.g.2.2.2))
          have HK3 : Hid (Kept G' w w3) := HK2.out.grown hg3 (fun k e => by cases e; exact hm2.g.2.2.2)
          have x0 := hbx2.cell 0
          have x1 := hbx2.cell 1
          simp at x0 x1
          have y86 := hm2.d86
          have HN3 : Hid _ := hn3
          have HBX3 : Hid _ := hbx3
          clear hput hmap3 hgrow3 hg3 hm2 hbx2 hn3 hbx3
          go_wp2
          go_region
          all_goals
            clear hput' x0 x1 y86
            have x0 := Blk.cell HBX3.out 0
            have x1 := Blk.cell HBX3.out 1
            simp at x0 x1
            have y87 := HN3.out.d87
            have y7 := HN3.out.d7
            have yt := HN3.out.t0
            have y3 := HN3.out.d3
            have yf := HN3.out.blk.free 87
            have hnr : nr2 ≤ 10000 := by have e1 : t.rv.length = nr2 := HN3.out.rv.len; have := HTR.out; omega
            obtain ⟨i0, hi0, hz0, hz1, hz2⟩ := info_parts info51
            have HNQ : Hid (some nb ≠ blkOf ar2) := fun e => (HN3.out.gr nb e.symm).2.1 rfl
            go_wp2
            go_region_law (first
              | (refine step_now (by rfl) (.tmp 49) (by rfl) tb t.now (by rfl) (by exact HN3.out.t0) ?_)
              | (refine step_roomHold (by rfl) (.tmp 51) (by rfl) nb bits HB.out (by rfl) (by exact HN3.out.d3) ?_; intro w4 hk4; have hk4' : Kept (fun _ => False) w3 w4 := ⟨hk4.os, hk4.tape, hk4.output, hk4.size, hk4.block⟩; have hn4 := HN3.out.quiet hk4'; have z87 := hn4.d87; have z7 := hn4.d7; have zf := hn4.blk.free 87; have hbx4 := Blk.kept HBX3.out hk4' id; have zx0 : w4.cell? ⟨w.heap.size, 0, none⟩ = some (.int .i32 o) := hbx4.cell 0; have zx1 : w4.cell? ⟨w.heap.size, 1, none⟩ = some (.int .u32 q) := hbx4.cell 1; have hl4 : nb < w4.heap.size := hn4.blk.lt; have hx4 : w.heap.size < w4.heap.size := hbx4.lt; have HN4 : Hid _ := hn4; have HK4 : Hid _ := hk4'; clear hk4 hk4' hn4 hbx4)
              | (refine step_append_row (by rfl) (.tmp 44) (.tmp 55) 48 (by rfl) rs_len rs_one 51 i0 (.agg #[.int .i32 0, .int .u32 0, .int .i64 0]) 16 und48 hi0 hz0 hz1 hz2 rfl ar2 nr2 cr2 t.rv (by rfl) (by exact (HN4.out.rv.alloc _)) ⟨w4.heap.size, 0, none⟩ 1 1 [⟨o, q, IntKind.i64.wrap (t.now + holdOf bits)⟩] (by rfl) rfl (by exact one_cells3 (Blk.new w4 _ _)) (by omega) (by omega) ?_; intro a5 c5 w5 hrow hgrow hnew; have hbl := ((HN4.out.quiet ((Kept.refl _ w4).alloc _)).blk).grown hgrow HNQ.out; have v1 : w5.cell? ⟨nb, 87, none⟩ = some (.slice ar2 nr2 cr2) := (hbl.cell 87).trans HN4.out.cells.n87; have v2 := hbl.free 87; have HR5 : Hid _ := hrow; have HG5 : Hid _ := hgrow; have HW5 : Hid _ := hnew; clear hrow hgrow hnew hbl))
            all_goals
              go_wp2
              go_ret
              rw [HBC.out.1, HBC.out.2]
              refine ⟨rfl, ⟨_, _, _, _, _, _, _, (HN4.out.quiet ((Kept.refl _ w4).alloc _)).setRv HR5.out HG5.out HW5.out⟩, ?_⟩
              exact (((HK3.out.trans (HK4.out.mono (fun _ => False.elim))).alloc _).grown HG5.out (fun k e => (HN3.out.gr k e).1)).setCell (p := ⟨nb, 87, none⟩) HN3.out.g.1 _
        · have hfit' : fits (weigh s) = false := by simpa using hfit
          have HM2 : Hid _ := hm2
          have HBC : Hid (reserveB s o q key = false ∧ reserveS s bits o q key = weigh s) := by
            have h1 := HBB.out.1
            have h2 := HBB.out.2
            rw [if_neg hfit] at h2
            rw [hfit'] at h1
            exact ⟨h1, h2⟩
          rw [hfit']
          clear hm2 hbx2 hfit hfit'
          go_wp2
          go_ret
          rw [HBC.out.1, HBC.out.2]
          obtain ⟨cs, ah, nh, ch, ar, nr, cr, hh⟩ := HM2.out
          exact ⟨rfl, ⟨_, _, _, _, _, _, _, hh.mapMono (Nat.le_succ _)⟩, HK2.out⟩
      · have hge : (0 : Int) ≤ hiOf s.held key := by rw [e1]; omega
        have HBB : Hid (reserveB s o q key = true ∧ reserveS s bits o q key = s) := ⟨(if_neg HO.out).trans (if_pos hge), (if_neg HO.out).trans (if_pos hge)⟩
        have hd : decide ((0 : Int) ≤ hiOf s.held key) = true := by rw [e1]; simp
        rw [hd]
        clear e1 e2 e3 hge hd
        go_wp2
        go_ret
        rw [HBB.out.1, HBB.out.2]
        exact ⟨rfl, ⟨_, _, _, _, _, _, _, HN0.out.mapMono (Nat.le_succ _)⟩, HK0.out⟩
    · have hany' : s.res.any (isOp o q) = false := by simpa using hany
      rw [hany'] at hl
      clear hany hany'
      go_quiet (fail)
      clear hl
      obtain ⟨w0, hw0⟩ : ∃ w0, w0 = (w.alloc (.cells #[.int .i32 o, .int .u32 q] 43)).drewN nq := ⟨_, rfl⟩
      rw [← hw0]
      have hn0 : NC w0 G' nb cb tb mb keeps bits s cs nm ah nh ch ar nr cr := by rw [hw0]; exact HN1.out.quiet ((Kept.refl _ _).drewN _)
      have hbx0 : Blk w0 w.heap.size #[.int .i32 o, .int .u32 q] := by rw [hw0]; exact HBX.out
      have HK0 : Hid (Kept G' w w0) := by rw [hw0]; exact HK1.out.drewN _
      have HN0 : Hid _ := hn0
      have HBX0 : Hid _ := hbx0
      have y61 := hn0.d61
      clear hn0 hbx0 hw0 c86 c61 HL hlt
      go_wp2_with fail
      refine (holds_any cb ah nh ch s.held key w0 HN0.out.q0 HN0.out.held.items).mono ?_
      rintro e w1 ⟨rfl, rfl⟩
      rcases hiOf_cases s.held key with ⟨e1, e2⟩ | ⟨j, x, e1, e2, e3⟩
      · have HBB : Hid (reserveB s o q key = fits (weigh s) ∧ reserveS s bits o q key = if fits (weigh s) then reserved (weigh s) bits o q key else weigh s) :=
          ⟨(if_neg HO.out).trans (if_neg (by rw [e1]; decide)), (if_neg HO.out).trans (if_neg (by rw [e1]; decide))⟩
        have HRB : Hid (roomB s key = fits (weigh s) ∧ roomS s key = weigh s) := ⟨if_neg (by rw [e1]; decide), if_neg (by rw [e1]; decide)⟩
        have hd : decide ((0 : Int) ≤ hiOf s.held key) = false := by rw [e1]; decide
        rw [hd]
        clear e1 e2 hd y61
        go_wp2_with fail
        refine (hasRoom_any G' nb cb tb mb keeps bits nm s key w1 ⟨_, _, _, _, _, _, _, HN0.out⟩ HF.out HNM.out).mono ?_
        rintro e w2 ⟨rfl, hm2, hk2⟩
        rw [HRB.out.1]
        rw [HRB.out.2] at hm2
        have HK2 : Hid (Kept G' w w2) := HK0.out.trans hk2
        have hbx2 : Blk w2 w.heap.size #[.int .i32 o, .int .u32 q] := Blk.kept HBX0.out hk2 HGX.out
        clear hk2
        by_cases hfit : fits (weigh s) = true
        · obtain ⟨t, ht⟩ : ∃ t, t = weigh s := ⟨_, rfl⟩
          have HBC : Hid (reserveB s o q key = true ∧ reserveS s bits o q key = reserved t bits o q key) := by
            have h1 := HBB.out.1
            have h2 := HBB.out.2
            rw [if_pos hfit, ← ht] at h2
            rw [hfit] at h1
            exact ⟨h1, h2⟩
          have HTR : Hid (t.rv.length ≤ 10000) := by rw [ht]; exact HRL.out
          rw [← ht] at hm2
          rw [hfit]
          clear hfit ht
          obtain ⟨cs2, ah2, nh2, ch2, ar2, nr2, cr2, hm2⟩ := hm2
          have HM2 : Hid (NC w2 G' nb cb tb mb keeps bits t cs2 nm ah2 nh2 ch2 ar2 nr2 cr2) := hm2
          obtain ⟨w3, hput, hmap3, hgrow3, -⟩ := (hm2.map.eqv (w' := w2.drew) rfl).put HO4.out HKS.out (by have := HNM.out; simp only [maxLen]; omega)
          have hput' : (Instr.mapUpdate 39 (.map (some mb)) (.agg #[.int .i32 o, .int .u32 q]) (.string key)).run Ybad.prog w2.drew = .ok () w3 := hput
          have hg3 := grown_drew hgrow3
          have hn3 := hm2.setMap hmap3 hg3
          have hbx3 : Blk w3 w.heap.size #[.int .i32 o, .int .u32 q] := hbx2.grown hg3 (fun e => HGX.out (by cases e; exact hm2.g.2.2.2))
          have HK3 : Hid (Kept G' w w3) := HK2.out.grown hg3 (fun k e => by cases e; exact hm2.g.2.2.2)
          have x0 := hbx2.cell 0
          have x1 := hbx2.cell 1
          simp at x0 x1
          have y86 := hm2.d86
          have HN3 : Hid _ := hn3
          have HBX3 : Hid _ := hbx3
          clear hput hmap3 hgrow3 hg3 hm2 hbx2 hn3 hbx3
          go_wp2
          go_region
          all_goals
            clear hput' x0 x1 y86
            have x0 := Blk.cell HBX3.out 0
            have x1 := Blk.cell HBX3.out 1
            simp at x0 x1
            have y87 := HN3.out.d87
            have y7 := HN3.out.d7
            have yt := HN3.out.t0
            have y3 := HN3.out.d3
            have yf := HN3.out.blk.free 87
            have hnr : nr2 ≤ 10000 := by have e1 : t.rv.length = nr2 := HN3.out.rv.len; have := HTR.out; omega
            obtain ⟨i0, hi0, hz0, hz1, hz2⟩ := info_parts info51
            have HNQ : Hid (some nb ≠ blkOf ar2) := fun e => (HN3.out.gr nb e.symm).2.1 rfl
            go_wp2
            go_region_law (first
              | (refine step_now (by rfl) (.tmp 49) (by rfl) tb t.now (by rfl) (by exact HN3.out.t0) ?_)
              | (refine step_roomHold (by rfl) (.tmp 51) (by rfl) nb bits HB.out (by rfl) (by exact HN3.out.d3) ?_; intro w4 hk4; have hk4' : Kept (fun _ => False) w3 w4 := ⟨hk4.os, hk4.tape, hk4.output, hk4.size, hk4.block⟩; have hn4 := HN3.out.quiet hk4'; have z87 := hn4.d87; have z7 := hn4.d7; have zf := hn4.blk.free 87; have hbx4 := Blk.kept HBX3.out hk4' id; have zx0 : w4.cell? ⟨w.heap.size, 0, none⟩ = some (.int .i32 o) := hbx4.cell 0; have zx1 : w4.cell? ⟨w.heap.size, 1, none⟩ = some (.int .u32 q) := hbx4.cell 1; have hl4 : nb < w4.heap.size := hn4.blk.lt; have hx4 : w.heap.size < w4.heap.size := hbx4.lt; have HN4 : Hid _ := hn4; have HK4 : Hid _ := hk4'; clear hk4 hk4' hn4 hbx4)
              | (refine step_append_row (by rfl) (.tmp 44) (.tmp 55) 48 (by rfl) rs_len rs_one 51 i0 (.agg #[.int .i32 0, .int .u32 0, .int .i64 0]) 16 und48 hi0 hz0 hz1 hz2 rfl ar2 nr2 cr2 t.rv (by rfl) (by exact (HN4.out.rv.alloc _)) ⟨w4.heap.size, 0, none⟩ 1 1 [⟨o, q, IntKind.i64.wrap (t.now + holdOf bits)⟩] (by rfl) rfl (by exact one_cells3 (Blk.new w4 _ _)) (by omega) (by omega) ?_; intro a5 c5 w5 hrow hgrow hnew; have hbl := ((HN4.out.quiet ((Kept.refl _ w4).alloc _)).blk).grown hgrow HNQ.out; have v1 : w5.cell? ⟨nb, 87, none⟩ = some (.slice ar2 nr2 cr2) := (hbl.cell 87).trans HN4.out.cells.n87; have v2 := hbl.free 87; have HR5 : Hid _ := hrow; have HG5 : Hid _ := hgrow; have HW5 : Hid _ := hnew; clear hrow hgrow hnew hbl))
            all_goals
              go_wp2
              go_ret
              rw [HBC.out.1, HBC.out.2]
              refine ⟨rfl, ⟨_, _, _, _, _, _, _, (HN4.out.quiet ((Kept.refl _ w4).alloc _)).setRv HR5.out HG5.out HW5.out⟩, ?_⟩
              exact (((HK3.out.trans (HK4.out.mono (fun _ => False.elim))).alloc _).grown HG5.out (fun k e => (HN3.out.gr k e).1)).setCell (p := ⟨nb, 87, none⟩) HN3.out.g.1 _
        · have hfit' : fits (weigh s) = false := by simpa using hfit
          have HM2 : Hid _ := hm2
          have HBC : Hid (reserveB s o q key = false ∧ reserveS s bits o q key = weigh s) := by
            have h1 := HBB.out.1
            have h2 := HBB.out.2
            rw [if_neg hfit] at h2
            rw [hfit'] at h1
            exact ⟨h1, h2⟩
          rw [hfit']
          clear hm2 hbx2 hfit hfit'
          go_wp2
          go_ret
          rw [HBC.out.1, HBC.out.2]
          obtain ⟨cs, ah, nh, ch, ar, nr, cr, hh⟩ := HM2.out
          exact ⟨rfl, ⟨_, _, _, _, _, _, _, hh.mapMono (Nat.le_succ _)⟩, HK2.out⟩
      · have hge : (0 : Int) ≤ hiOf s.held key := by rw [e1]; omega
        have HBB : Hid (reserveB s o q key = true ∧ reserveS s bits o q key = s) := ⟨(if_neg HO.out).trans (if_pos hge), (if_neg HO.out).trans (if_pos hge)⟩
        have hd : decide ((0 : Int) ≤ hiOf s.held key) = true := by rw [e1]; simp
        rw [hd]
        clear e1 e2 e3 hge hd
        go_wp2
        go_ret
        rw [HBB.out.1, HBB.out.2]
        exact ⟨rfl, ⟨_, _, _, _, _, _, _, HN0.out.mapMono (Nat.le_succ _)⟩, HK0.out⟩

theorem reserve_any (G : Nat → Prop) (nb cb tb mb : Nat) (keeps bits : Int) (nm : Nat) (s : MS) (o q : Int) (key : ByteArray) (w : World) (h : NAt w G nb cb tb mb keeps bits nm s) (h4 : ∀ r ∈ s.rv, In4 r.o r.q) (hnm : nm ≤ 2000000) (ho4 : In4 o q) (hks : key.size ≤ maxLen) (hb : 0 ≤ bits ∧ bits < 16) (hrl : (weigh s).rv.length ≤ 10000) :
    Calls Ybad.prog 20 #[.pointer (some ⟨nb, 0, none⟩), opV o q, .string key] w fun e w' => e = .returned (.bool (reserveB s o q key)) ∧ NAt w' G nb cb tb mb keeps bits (nm + 1) (reserveS s bits o q key) ∧ Kept G w w' := by
  refine (reserve_core G nb cb tb mb keeps bits nm s o q key w h h4 hnm ho4 hks hb hrl).mono ?_
  rintro e w' ⟨rfl, h1, h2⟩
  exact ⟨rfl, h1.widen (fun _ hh => hh.1), h2.mono (fun _ hh => hh.1)⟩

end Go.Proofs.YbulkdywgDoor
