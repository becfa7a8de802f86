/-
  Seat b6272aD: the node's apply at a stamp.
-/
import Derived.Test.YbulkdywgDoorGet
import Derived.Test.YbulkdywgDoorReserve
namespace Go.Proofs.YbulkdywgDoor
open Go.RowKit
set_option linter.unusedVariables false
set_option maxRecDepth 100000

def stampReply (s : MS) (m : Msg) : Msg := match ansX s.held m.key with
  | some x => { m.reply with count := x.c, writer := x.r, found := reserveB s m.o m.q m.key }
  | none => { m.reply with count := 0, writer := 0, found := reserveB s m.o m.q m.key }

set_option maxHeartbeats 8000000 in
theorem apply_stamp (G : Nat → Prop) (nb cb tb mb mk : Nat) (bits : Int) (nm : Nat) (s : MS) (m : Msg) (w : World) (hn : NAt w G nb cb tb mb 0 bits nm s) (hm : Blk w mk m.cells) (hk : KindsIn w) (hkind : m.kind = 10)
    (hg : ¬ G mk) (h4 : ∀ r ∈ s.rv, In4 r.o r.q) (hnm : nm ≤ 2000000) (ho4 : In4 m.o m.q) (hks : m.key.size ≤ maxLen) (hb : 0 ≤ bits ∧ bits < 16) (hrl : (weigh s).rv.length ≤ 10000) :
    Calls Ybad.prog 13 #[.pointer (some ⟨nb, 0, none⟩), .pointer (some ⟨mk, 0, none⟩)] w fun e w' => e = .returned (.pointer (some ⟨w.heap.size, 0, none⟩)) ∧
      Blk w' w.heap.size (stampReply s m).cells ∧ NAt w' (boxG G w.heap.size) nb cb tb mb 0 bits (nm + 1) (reserveS s bits m.o m.q m.key) ∧ Kept (boxG G w.heap.size) w w' := by
  obtain ⟨o, q, kind, route, src, dst, hop, skip, skipped, key, value, count, writer, found, hops, load⟩ := m
  simp only at hkind
  subst hkind
  have c0 : w.cell? ⟨mk, 0, none⟩ = some (.int .i32 o) := hm.cell 0
  have c1 : w.cell? ⟨mk, 1, none⟩ = some (.int .u32 q) := hm.cell 1
  have c2 : w.cell? ⟨mk, 2, none⟩ = some (.int .u8 10) := hm.cell 2
  have c3 : w.cell? ⟨mk, 3, none⟩ = some (.int .i64 route) := hm.cell 3
  have c4 : w.cell? ⟨mk, 4, none⟩ = some (.int .u32 src) := hm.cell 4
  have c5 : w.cell? ⟨mk, 5, none⟩ = some (.int .u32 dst) := hm.cell 5
  have c6 : w.cell? ⟨mk, 6, none⟩ = some (.int .i64 hop) := hm.cell 6
  have c8 : w.cell? ⟨mk, 8, none⟩ = some (.int .i64 skipped) := hm.cell 8
  have c9 : w.cell? ⟨mk, 9, none⟩ = some (.string key) := hm.cell 9
  have HKI : Hid (KindsIn w) := hk
  have HMB : Hid (Blk w mk (Msg.cells ⟨o, q, 10, route, src, dst, hop, skip, skipped, key, value, count, writer, found, hops, load⟩)) := hm
  have hlt := hm.lt
  obtain ⟨cs, ah, nh, ch, ar, nr, cr, hn⟩ := hn
  have HN : Hid (NC w G nb cb tb mb 0 bits s cs nm ah nh ch ar nr cr) := hn
  have HG : Hid (¬ G mk) := hg
  have H4 : Hid (∀ r ∈ s.rv, In4 r.o r.q) := h4
  have HNM : Hid (nm ≤ 2000000) := hnm
  have HO4 : Hid (In4 o q) := ho4
  have HKS : Hid (key.size ≤ maxLen) := hks
  have HB : Hid (0 ≤ bits ∧ bits < 16) := hb
  have HRL : Hid ((weigh s).rv.length ≤ 10000) := hrl
  clear hk hm hn hg h4 hnm ho4 hks hb hrl
  go_enter Ybad.func13, Ybad.ntmps13
  go_wp2_with fail
  refine wp_region_still_tail 39 (by kernel_rfl) (by kernel_rfl) ?_
  simp only [List.take_succ_cons, List.take_zero, List.drop_succ_cons, List.drop_zero]
  repeat still_step
  refine wpStill_step (fun K hK => ?_)
  go_simp
  refine ⟨_, reply_any 10 (by decide) (by decide) w.drew HKI.out, hK _ ?_⟩
  clear hK K
  repeat still_step
  refine wpStill_nil ?_
  go_wp2_with fail
  obtain ⟨w1, hw1⟩ : ∃ w1, w1 = (w.alloc (.cells (Msg.cells (Msg.reply ⟨o, q, 10, route, src, dst, hop, skip, skipped, key, value, count, writer, found, hops, load⟩)) 59)).drew := ⟨_, rfl⟩
  have hgoal := hw1
  simp only [Msg.cells, Msg.reply] at hgoal
  rw [← hgoal]
  have hn1 : NC w1 (boxG G w.heap.size) nb cb tb mb 0 bits s cs nm ah nh ch ar nr cr := by rw [hw1]; exact (HN.out.boxed _).quiet (Kept.refl _ _).drew
  have hm1 : Blk w1 mk (Msg.cells ⟨o, q, 10, route, src, dst, hop, skip, skipped, key, value, count, writer, found, hops, load⟩) := by rw [hw1]; exact HMB.out.alloc _
  have hr1 : Blk w1 w.heap.size (Msg.cells (Msg.reply ⟨o, q, 10, route, src, dst, hop, skip, skipped, key, value, count, writer, found, hops, load⟩)) := by rw [hw1]; exact Blk.new _ _ _
  have HK1 : Hid (Kept (boxG G w.heap.size) w w1) := by rw [hw1]; exact ((Kept.refl _ w).alloc _).drew
  have HGM : Hid (¬ boxG G w.heap.size mk) := fun hx => HG.out hx.1
  have HGR : Hid (¬ boxG G w.heap.size w.heap.size) := fun hx => hx.2 rfl
  have HNE : Hid (mk ≠ w.heap.size) := by show mk ≠ _; omega
  clear hgoal hw1 c0 c1 c2 c3 c4 c5 c6 c8 c9
  have HN1 : Hid (NC w1 (boxG G w.heap.size) nb cb tb mb 0 bits s cs nm ah nh ch ar nr cr) := hn1
  have HM1 : Hid (Blk w1 mk (Msg.cells ⟨o, q, 10, route, src, dst, hop, skip, skipped, key, value, count, writer, found, hops, load⟩)) := hm1
  have HR1 : Hid (Blk w1 w.heap.size (Msg.cells (Msg.reply ⟨o, q, 10, route, src, dst, hop, skip, skipped, key, value, count, writer, found, hops, load⟩))) := hr1
  have c0 : w1.cell? ⟨mk, 0, none⟩ = some (.int .i32 o) := hm1.cell 0
  have c1 : w1.cell? ⟨mk, 1, none⟩ = some (.int .u32 q) := hm1.cell 1
  have c9 : w1.cell? ⟨mk, 9, none⟩ = some (.string key) := hm1.cell 9
  have e61 := hn1.d61
  clear hn1 hm1 hr1
  rcases hiOf_cases s.held key with ⟨e1, e2⟩ | ⟨j, x, e1, e2, e3⟩
  · have HE : Hid (ansV s.held key = .tuple #[.string ⟨#[]⟩, .agg #[.int .u64 0, .int .i32 0], .bool false]) := (ansV_none e1).1
    have HX : Hid (ansX s.held key = none) := (ansV_none e1).2
    clear e1 e2
    go_region_law (refine step_answer (by rfl) (.tmp 129) (.tmp 127) (by rfl) cb key (by rfl) (by rfl) ah nh ch s.held (by exact HN1.out.q0) (by exact HN1.out.held.eqv (fun _ _ => rfl)) ?_; intro w2 hk2; rw [HE.out]; have hka' : Kept (fun _ => False) w1 w2 := ⟨hk2.os, hk2.tape, hk2.output, hk2.size, hk2.block⟩; have hr2 := Blk.kept HR1.out hka' id; have d11 : w2.cell? ⟨w.heap.size, 11, none⟩ = some (.int .u64 0) := hr2.cell 11; have d12 : w2.cell? ⟨w.heap.size, 12, none⟩ = some (.int .i32 0) := hr2.cell 12; have f11 := hr2.free 11; have f12 := hr2.free 12; have HKA : Hid _ := hka'; have HR2 : Hid _ := hr2; clear hk2 hka' hr2)
    all_goals
      have hnx := ((HN1.out.quiet HKA.out).setBox 11 (.int .u64 0)).setBox 12 (.int .i32 0)
      have hmx := ((Blk.kept HM1.out HKA.out id).other HNE.out 11 (.int .u64 0)).other HNE.out 12 (.int .i32 0)
      have hrx := (Blk.set HR2.out 11 (.int .u64 0)).set 12 (.int .i32 0)
      have hkx := ((HK1.out.trans (HKA.out.mono (fun _ => False.elim))).setBox 11 (.int .u64 0)).setBox 12 (.int .i32 0)
      go_wp2_with fail
      generalize hw3 : (w2.setCell ⟨w.heap.size, 11, none⟩ (.int .u64 0)).setCell ⟨w.heap.size, 12, none⟩ (.int .i32 0) = w3 at *
      have e0 : w3.cell? ⟨mk, 0, none⟩ = some (.int .i32 o) := hmx.cell 0
      have e1 : w3.cell? ⟨mk, 1, none⟩ = some (.int .u32 q) := hmx.cell 1
      have e9 : w3.cell? ⟨mk, 9, none⟩ = some (.string key) := hmx.cell 9
      have HNX : Hid (NC w3 (boxG G w.heap.size) nb cb tb mb 0 bits s cs nm ah nh ch ar nr cr) := hnx
      have HRX : Hid (Blk w3 w.heap.size (Msg.cells { Msg.reply ⟨o, q, 10, route, src, dst, hop, skip, skipped, key, value, count, writer, found, hops, load⟩ with count := 0, writer := 0 })) := hrx
      have HKX : Hid (Kept (boxG G w.heap.size) w w3) := hkx
      clear hnx hmx hrx hkx hw3 d11 d12 f11 f12 c0 c1 c9
      go_region_law (refine step_call3 (by rfl) 20 (.tmp 137) (.tmp 141) (.tmp 145) 67 43 9 (by rfl) (.pointer (some ⟨nb, 0, none⟩)) (opV o q) (.string key) (by rfl) (by rfl) (by rfl) (by kernel_rfl) (.bool (reserveB s o q key)) (fun w' => NAt w' (boxG G w.heap.size) nb cb tb mb 0 bits (nm + 1) (reserveS s bits o q key) ∧ Kept (boxG G w.heap.size) w3.drew w') (by exact reserve_any (boxG G w.heap.size) nb cb tb mb 0 bits nm s o q key w3.drew ⟨_, _, _, _, _, _, _, HNX.out.quiet (Kept.refl _ _).drew⟩ H4.out HNM.out HO4.out HKS.out HB.out HRL.out) ?_; rintro w4 ⟨hna, hka⟩; have hka' : Kept (boxG G w.heap.size) w3 w4 := ⟨hka.os, hka.tape, hka.output, hka.size, hka.block⟩; have hr4 := Blk.kept HRX.out hka' HGR.out; have d13 : w4.cell? ⟨w.heap.size, 13, none⟩ = some (.bool false) := hr4.cell 13; have f13 := hr4.free 13; have HNA : Hid _ := hna; have HKB : Hid _ := hka'; have HR4 : Hid _ := hr4; clear hna hka hka' hr4)
      all_goals
        go_wp2
        go_ret
        obtain ⟨cs4, ah4, nh4, ch4, ar4, nr4, cr4, hx4⟩ := HNA.out
        refine ⟨rfl, ?_, ⟨_, _, _, _, _, _, _, hx4.setBox 13 _⟩, (HKX.out.trans HKB.out).setBox 13 _⟩
        have hgr : stampReply s ⟨o, q, 10, route, src, dst, hop, skip, skipped, key, value, count, writer, found, hops, load⟩ = { Msg.reply ⟨o, q, 10, route, src, dst, hop, skip, skipped, key, value, count, writer, found, hops, load⟩ with count := 0, writer := 0, found := reserveB s o q key } := by show (match ansX s.held key with | some x => _ | none => _) = _; rw [HX.out]
        rw [hgr]
        exact Blk.set HR4.out 13 _
  · have HE : Hid (ansV s.held key = .tuple #[.string x.v, .agg #[.int .u64 x.c, .int .i32 x.r], .bool true]) := (ansV_some e1 e2).1
    have HX : Hid (ansX s.held key = some x) := (ansV_some e1 e2).2
    clear e1 e2 e3
    go_region_law (refine step_answer (by rfl) (.tmp 129) (.tmp 127) (by rfl) cb key (by rfl) (by rfl) ah nh ch s.held (by exact HN1.out.q0) (by exact HN1.out.held.eqv (fun _ _ => rfl)) ?_; intro w2 hk2; rw [HE.out]; have hka' : Kept (fun _ => False) w1 w2 := ⟨hk2.os, hk2.tape, hk2.output, hk2.size, hk2.block⟩; have hr2 := Blk.kept HR1.out hka' id; have d11 : w2.cell? ⟨w.heap.size, 11, none⟩ = some (.int .u64 0) := hr2.cell 11; have d12 : w2.cell? ⟨w.heap.size, 12, none⟩ = some (.int .i32 0) := hr2.cell 12; have f11 := hr2.free 11; have f12 := hr2.free 12; have HKA : Hid _ := hka'; have HR2 : Hid _ := hr2; clear hk2 hka' hr2)
    all_goals
      have hnx := ((HN1.out.quiet HKA.out).setBox 11 (.int .u64 x.c)).setBox 12 (.int .i32 x.r)
      have hmx := ((Blk.kept HM1.out HKA.out id).other HNE.out 11 (.int .u64 x.c)).other HNE.out 12 (.int .i32 x.r)
      have hrx := (Blk.set HR2.out 11 (.int .u64 x.c)).set 12 (.int .i32 x.r)
      have hkx := ((HK1.out.trans (HKA.out.mono (fun _ => False.elim))).setBox 11 (.int .u64 x.c)).setBox 12 (.int .i32 x.r)
      go_wp2_with fail
      generalize hw3 : (w2.setCell ⟨w.heap.size, 11, none⟩ (.int .u64 x.c)).setCell ⟨w.heap.size, 12, none⟩ (.int .i32 x.r) = w3 at *
      have e0 : w3.cell? ⟨mk, 0, none⟩ = some (.int .i32 o) := hmx.cell 0
      have e1 : w3.cell? ⟨mk, 1, none⟩ = some (.int .u32 q) := hmx.cell 1
      have e9 : w3.cell? ⟨mk, 9, none⟩ = some (.string key) := hmx.cell 9
      have HNX : Hid (NC w3 (boxG G w.heap.size) nb cb tb mb 0 bits s cs nm ah nh ch ar nr cr) := hnx
      have HRX : Hid (Blk w3 w.heap.size (Msg.cells { Msg.reply ⟨o, q, 10, route, src, dst, hop, skip, skipped, key, value, count, writer, found, hops, load⟩ with count := x.c, writer := x.r })) := hrx
      have HKX : Hid (Kept (boxG G w.heap.size) w w3) := hkx
      clear hnx hmx hrx hkx hw3 d11 d12 f11 f12 c0 c1 c9
      go_region_law (refine step_call3 (by rfl) 20 (.tmp 137) (.tmp 141) (.tmp 145) 67 43 9 (by rfl) (.pointer (some ⟨nb, 0, none⟩)) (opV o q) (.string key) (by rfl) (by rfl) (by rfl) (by kernel_rfl) (.bool (reserveB s o q key)) (fun w' => NAt w' (boxG G w.heap.size) nb cb tb mb 0 bits (nm + 1) (reserveS s bits o q key) ∧ Kept (boxG G w.heap.size) w3.drew w') (by exact reserve_any (boxG G w.heap.size) nb cb tb mb 0 bits nm s o q key w3.drew ⟨_, _, _, _, _, _, _, HNX.out.quiet (Kept.refl _ _).drew⟩ H4.out HNM.out HO4.out HKS.out HB.out HRL.out) ?_; rintro w4 ⟨hna, hka⟩; have hka' : Kept (boxG G w.heap.size) w3 w4 := ⟨hka.os, hka.tape, hka.output, hka.size, hka.block⟩; have hr4 := Blk.kept HRX.out hka' HGR.out; have d13 : w4.cell? ⟨w.heap.size, 13, none⟩ = some (.bool false) := hr4.cell 13; have f13 := hr4.free 13; have HNA : Hid _ := hna; have HKB : Hid _ := hka'; have HR4 : Hid _ := hr4; clear hna hka hka' hr4)
      all_goals
        go_wp2
        go_ret
        obtain ⟨cs4, ah4, nh4, ch4, ar4, nr4, cr4, hx4⟩ := HNA.out
        refine ⟨rfl, ?_, ⟨_, _, _, _, _, _, _, hx4.setBox 13 _⟩, (HKX.out.trans HKB.out).setBox 13 _⟩
        have hgr : stampReply s ⟨o, q, 10, route, src, dst, hop, skip, skipped, key, value, count, writer, found, hops, load⟩ = { Msg.reply ⟨o, q, 10, route, src, dst, hop, skip, skipped, key, value, count, writer, found, hops, load⟩ with count := x.c, writer := x.r, found := reserveB s o q key } := by show (match ansX s.held key with | some x => _ | none => _) = _; rw [HX.out]
        rw [hgr]
        exact Blk.set HR4.out 13 _

end Go.Proofs.YbulkdywgDoor
