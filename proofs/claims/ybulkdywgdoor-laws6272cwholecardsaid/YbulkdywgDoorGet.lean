/-
  Seat b6272aD: the node's apply at a get.
-/
import Derived.Test.YbulkdywgDoorPut
namespace Go.Proofs.YbulkdywgDoor
open Go.RowKit
set_option linter.unusedVariables false
set_option maxRecDepth 100000

def ansX (its : List It) (key : ByteArray) : Option It := if 0 ≤ hiOf its key then its[(hiOf its key).toNat]? else none
def getReply (its : List It) (m : Msg) : Msg := match ansX its m.key with
  | some x => { m.reply with value := x.v, count := x.c, writer := x.r, found := true }
  | none => m.reply

theorem ansV_none {its : List It} {key : ByteArray} (h : hiOf its key = -1) : ansV its key = .tuple #[.string ⟨#[]⟩, .agg #[.int .u64 0, .int .i32 0], .bool false] ∧ ansX its key = none := by
  refine ⟨?_, if_neg (by rw [h]; decide)⟩
  unfold ansV
  rw [h]
  cases its[(-1 : Int).toNat]? <;> rfl
theorem ansV_some {its : List It} {key : ByteArray} {j : Nat} {x : It} (h : hiOf its key = j) (hx : its[j]? = some x) : ansV its key = .tuple #[.string x.v, .agg #[.int .u64 x.c, .int .i32 x.r], .bool true] ∧ ansX its key = some x := by
  refine ⟨?_, ?_⟩
  · unfold ansV
    rw [h]
    simp [hx]
  · unfold ansX
    rw [h, if_pos (by omega)]
    simpa using hx

set_option maxHeartbeats 4000000 in
theorem apply_get (G : Nat → Prop) (nb cb tb mb mk : Nat) (bits : Int) (nm : Nat) (s : MS) (m : Msg) (w : World) (hn : NAt w G nb cb tb mb 0 bits nm s) (hm : Blk w mk m.cells) (hk : KindsIn w) (hkind : m.kind = 2) (hg : ¬ G mk) :
    Calls Ybad.prog 13 #[.pointer (some ⟨nb, 0, none⟩), .pointer (some ⟨mk, 0, none⟩)] w fun e w' => e = .returned (.pointer (some ⟨w.heap.size, 0, none⟩)) ∧
      Blk w' w.heap.size (getReply s.held m).cells ∧ NAt w' (boxG G w.heap.size) nb cb tb mb 0 bits nm s ∧ Kept (boxG G w.heap.size) w w' := by
  obtain ⟨o, q, kind, route, src, dst, hop, skip, skipped, key, value, count, writer, found, hops, load⟩ := m
  simp only at hkind
  subst hkind
  have c0 : w.cell? ⟨mk, 0, none⟩ = some (.int .i32 o) := hm.cell 0
  have c1 : w.cell? ⟨mk, 1, none⟩ = some (.int .u32 q) := hm.cell 1
  have c2 : w.cell? ⟨mk, 2, none⟩ = some (.int .u8 2) := hm.cell 2
  have c3 : w.cell? ⟨mk, 3, none⟩ = some (.int .i64 route) := hm.cell 3
  have c4 : w.cell? ⟨mk, 4, none⟩ = some (.int .u32 src) := hm.cell 4
  have c5 : w.cell? ⟨mk, 5, none⟩ = some (.int .u32 dst) := hm.cell 5
  have c6 : w.cell? ⟨mk, 6, none⟩ = some (.int .i64 hop) := hm.cell 6
  have c8 : w.cell? ⟨mk, 8, none⟩ = some (.int .i64 skipped) := hm.cell 8
  have c9 : w.cell? ⟨mk, 9, none⟩ = some (.string key) := hm.cell 9
  have HKI : Hid (KindsIn w) := hk
  have HMB : Hid (Blk w mk (Msg.cells ⟨o, q, 2, route, src, dst, hop, skip, skipped, key, value, count, writer, found, hops, load⟩)) := hm
  have hlt := hm.lt
  obtain ⟨cs, ah, nh, ch, ar, nr, cr, hn⟩ := hn
  have HN : Hid (NC w G nb cb tb mb 0 bits s cs nm ah nh ch ar nr cr) := hn
  have HG : Hid (¬ G mk) := hg
  clear hk hm hn hg
  go_enter Ybad.func13, Ybad.ntmps13
  go_wp2_with fail
  refine wp_region_still_tail 39 (by kernel_rfl) (by kernel_rfl) ?_
  simp only [List.take_succ_cons, List.take_zero, List.drop_succ_cons, List.drop_zero]
  repeat still_step
  refine wpStill_step (fun K hK => ?_)
  go_simp
  refine ⟨_, reply_any 2 (by decide) (by decide) w.drew HKI.out, hK _ ?_⟩
  clear hK K
  repeat still_step
  refine wpStill_nil ?_
  go_wp2_with fail
  obtain ⟨w1, hw1⟩ : ∃ w1, w1 = (w.alloc (.cells (Msg.cells (Msg.reply ⟨o, q, 2, route, src, dst, hop, skip, skipped, key, value, count, writer, found, hops, load⟩)) 59)).drew := ⟨_, rfl⟩
  have hgoal := hw1
  simp only [Msg.cells, Msg.reply] at hgoal
  rw [← hgoal]
  have hn1 : NC w1 (boxG G w.heap.size) nb cb tb mb 0 bits s cs nm ah nh ch ar nr cr := by rw [hw1]; exact (HN.out.boxed _).quiet (Kept.refl _ _).drew
  have hm1 : Blk w1 mk (Msg.cells ⟨o, q, 2, route, src, dst, hop, skip, skipped, key, value, count, writer, found, hops, load⟩) := by rw [hw1]; exact HMB.out.alloc _
  have hr1 : Blk w1 w.heap.size (Msg.cells (Msg.reply ⟨o, q, 2, route, src, dst, hop, skip, skipped, key, value, count, writer, found, hops, load⟩)) := by rw [hw1]; exact Blk.new _ _ _
  have HK1 : Hid (Kept (boxG G w.heap.size) w w1) := by rw [hw1]; exact ((Kept.refl _ w).alloc _).drew
  have HGM : Hid (¬ boxG G w.heap.size mk) := fun hx => HG.out hx.1
  have HGR : Hid (¬ boxG G w.heap.size w.heap.size) := fun hx => hx.2 rfl
  have HNE : Hid (mk ≠ w.heap.size) := by show mk ≠ _; omega
  clear hgoal hw1 c0 c1 c2 c3 c4 c5 c6 c8 c9
  have HN1 : Hid (NC w1 (boxG G w.heap.size) nb cb tb mb 0 bits s cs nm ah nh ch ar nr cr) := hn1
  have HM1 : Hid (Blk w1 mk (Msg.cells ⟨o, q, 2, route, src, dst, hop, skip, skipped, key, value, count, writer, found, hops, load⟩)) := hm1
  have HR1 : Hid (Blk w1 w.heap.size (Msg.cells (Msg.reply ⟨o, q, 2, route, src, dst, hop, skip, skipped, key, value, count, writer, found, hops, load⟩))) := hr1
  have c0 : w1.cell? ⟨mk, 0, none⟩ = some (.int .i32 o) := hm1.cell 0
  have c1 : w1.cell? ⟨mk, 1, none⟩ = some (.int .u32 q) := hm1.cell 1
  have c9 : w1.cell? ⟨mk, 9, none⟩ = some (.string key) := hm1.cell 9
  have e61 := hn1.d61
  clear hn1 hm1 hr1
  rcases hiOf_cases s.held key with ⟨e1, e2⟩ | ⟨j, x, e1, e2, e3⟩
  · have HE : Hid (ansV s.held key = .tuple #[.string ⟨#[]⟩, .agg #[.int .u64 0, .int .i32 0], .bool false]) := (ansV_none e1).1
    have HX : Hid (ansX s.held key = none) := (ansV_none e1).2
    clear e1 e2
    go_region_law (refine step_answer (by rfl) (.tmp 105) (.tmp 103) (by rfl) cb key (by rfl) (by rfl) ah nh ch s.held (by exact HN1.out.q0) (by exact HN1.out.held.eqv (fun _ _ => rfl)) ?_; intro w2 hk2; rw [HE.out]; have hka' : Kept (fun _ => False) w1 w2 := ⟨hk2.os, hk2.tape, hk2.output, hk2.size, hk2.block⟩; have hr2 := Blk.kept HR1.out hka' id; have d10 : w2.cell? ⟨w.heap.size, 10, none⟩ = some (.string ⟨#[]⟩) := hr2.cell 10; have d11 : w2.cell? ⟨w.heap.size, 11, none⟩ = some (.int .u64 0) := hr2.cell 11; have d12 : w2.cell? ⟨w.heap.size, 12, none⟩ = some (.int .i32 0) := hr2.cell 12; have d13 : w2.cell? ⟨w.heap.size, 13, none⟩ = some (.bool false) := hr2.cell 13; have f10 := hr2.free 10; have f11 := hr2.free 11; have f12 := hr2.free 12; have f13 := hr2.free 13; have HKA : Hid _ := hka'; have HR2 : Hid _ := hr2; clear hk2 hka' hr2)
    all_goals
      go_wp2
      go_ret
      have hgr : getReply s.held ⟨o, q, 2, route, src, dst, hop, skip, skipped, key, value, count, writer, found, hops, load⟩ = Msg.reply ⟨o, q, 2, route, src, dst, hop, skip, skipped, key, value, count, writer, found, hops, load⟩ := by show (match ansX s.held key with | some x => _ | none => _) = _; rw [HX.out]
      rw [hgr]
      exact ⟨rfl, (((Blk.set HR2.out 10 _).set 11 _).set 12 _).set 13 _, ⟨_, _, _, _, _, _, _, ((((HN1.out.quiet HKA.out).setBox 10 _).setBox 11 _).setBox 12 _).setBox 13 _⟩, (((((HK1.out.trans (HKA.out.mono (fun _ => False.elim))).setBox 10 _).setBox 11 _).setBox 12 _).setBox 13 _)⟩
  · have HE : Hid (ansV s.held key = .tuple #[.string x.v, .agg #[.int .u64 x.c, .int .i32 x.r], .bool true]) := (ansV_some e1 e2).1
    have HX : Hid (ansX s.held key = some x) := (ansV_some e1 e2).2
    clear e1 e2 e3
    go_region_law (refine step_answer (by rfl) (.tmp 105) (.tmp 103) (by rfl) cb key (by rfl) (by rfl) ah nh ch s.held (by exact HN1.out.q0) (by exact HN1.out.held.eqv (fun _ _ => rfl)) ?_; intro w2 hk2; rw [HE.out]; have hka' : Kept (fun _ => False) w1 w2 := ⟨hk2.os, hk2.tape, hk2.output, hk2.size, hk2.block⟩; have hr2 := Blk.kept HR1.out hka' id; have d10 : w2.cell? ⟨w.heap.size, 10, none⟩ = some (.string ⟨#[]⟩) := hr2.cell 10; have d11 : w2.cell? ⟨w.heap.size, 11, none⟩ = some (.int .u64 0) := hr2.cell 11; have d12 : w2.cell? ⟨w.heap.size, 12, none⟩ = some (.int .i32 0) := hr2.cell 12; have d13 : w2.cell? ⟨w.heap.size, 13, none⟩ = some (.bool false) := hr2.cell 13; have f10 := hr2.free 10; have f11 := hr2.free 11; have f12 := hr2.free 12; have f13 := hr2.free 13; have HKA : Hid _ := hka'; have HR2 : Hid _ := hr2; clear hk2 hka' hr2)
    all_goals
      go_wp2
      go_ret
      have hgr : getReply s.held ⟨o, q, 2, route, src, dst, hop, skip, skipped, key, value, count, writer, found, hops, load⟩ = { Msg.reply ⟨o, q, 2, route, src, dst, hop, skip, skipped, key, value, count, writer, found, hops, load⟩ with value := x.v, count := x.c, writer := x.r, found := true } := by show (match ansX s.held key with | some x => _ | none => _) = _; rw [HX.out]
      rw [hgr]
      exact ⟨rfl, (((Blk.set HR2.out 10 _).set 11 _).set 12 _).set 13 _, ⟨_, _, _, _, _, _, _, ((((HN1.out.quiet HKA.out).setBox 10 _).setBox 11 _).setBox 12 _).setBox 13 _⟩, (((((HK1.out.trans (HKA.out.mono (fun _ => False.elim))).setBox 10 _).setBox 11 _).setBox 12 _).setBox 13 _)⟩

end Go.Proofs.YbulkdywgDoor
