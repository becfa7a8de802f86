/-
  Seat b6272aD: the node's apply at a put.
-/
import Derived.Test.YbulkdywgDoorApply
namespace Go.Proofs.YbulkdywgDoor
open Go.RowKit
set_option linter.unusedVariables false
set_option maxRecDepth 100000

/-- A store into a block that was not there. -/
theorem Kept.setBox {G : Nat → Prop} {w w' : World} (h : Kept G w w') (k : Nat) (v : Value) : Kept G w (w'.setCell ⟨w.heap.size, k, none⟩ v) :=
  ⟨h.os, h.tape, h.output, by simpa [World.setCell] using h.size, fun i hi hg => (heap_setCell_other w' _ i v (by show i ≠ w.heap.size; omega)).trans (h.block i hi hg)⟩

theorem NC.setBox {w : World} {G : Nat → Prop} {x : Nat} {nb cb tb mb : Nat} {keeps bits : Int} {s : MS} {cs : Array Value} {nm : Nat} {ah : Option Addr} {nh ch : Nat} {ar : Option Addr} {nr cr : Nat} (h : NC w (boxG G x) nb cb tb mb keeps bits s cs nm ah nh ch ar nr cr) (k : Nat) (v : Value) : NC (w.setCell ⟨x, k, none⟩ v) (boxG G x) nb cb tb mb keeps bits s cs nm ah nh ch ar nr cr := by
  have hk : Kept (fun b => b = x) w (w.setCell ⟨x, k, none⟩ v) := ⟨rfl, rfl, rfl, by simp [World.setCell], fun i hi hg => heap_setCell_other w _ i v hg⟩
  exact h.kept hk (fun b _ hb e => hb.2 e)

theorem roomS_held (s : MS) (key : ByteArray) : (roomS s key).held = s.held := by
  unfold roomS
  split
  · rfl
  · unfold weigh
    simp only []
    split <;> rfl
theorem keepsS_held (s : MS) (o q : Int) (key : ByteArray) : (keepsS s o q key).held = s.held := by
  unfold keepsS
  split
  · rfl
  · exact roomS_held s key

def cntOf (b : Bool) : Int := match b with | true => 1 | false => 0

set_option maxHeartbeats 4000000 in
theorem apply_put (G : Nat → Prop) (nb cb tb mb mk : Nat) (bits : Int) (nm : Nat) (s : MS) (m : Msg) (w : World) (hn : NAt w G nb cb tb mb 0 bits nm s) (hm : Blk w mk m.cells) (hk : KindsIn w) (hkind : m.kind = 1)
    (hg : ¬ G mk) (h4 : ∀ r ∈ s.rv, In4 r.o r.q) (hnm : nm ≤ 2000000) (ho4 : In4 m.o m.q) (hlen : s.held.length ≤ 10000) :
    Calls Ybad.prog 13 #[.pointer (some ⟨nb, 0, none⟩), .pointer (some ⟨mk, 0, none⟩)] w fun e w' => e = .returned (.pointer (some ⟨w.heap.size, 0, none⟩)) ∧
      Blk w' w.heap.size ({ m.reply with found := putFound s m }).cells ∧ NAt w' (boxG G w.heap.size) nb cb tb mb (cntOf (putFound s m)) bits nm (putS s m) ∧ Kept (boxG G w.heap.size) w w' := by
  obtain ⟨o, q, kind, route, src, dst, hop, skip, skipped, key, value, count, writer, found, hops, load⟩ := m
  simp only at hkind
  subst hkind
  have c0 : w.cell? ⟨mk, 0, none⟩ = some (.int .i32 o) := hm.cell 0
  have c1 : w.cell? ⟨mk, 1, none⟩ = some (.int .u32 q) := hm.cell 1
  have c2 : w.cell? ⟨mk, 2, none⟩ = some (.int .u8 1) := hm.cell 2
  have c3 : w.cell? ⟨mk, 3, none⟩ = some (.int .i64 route) := hm.cell 3
  have c4 : w.cell? ⟨mk, 4, none⟩ = some (.int .u32 src) := hm.cell 4
  have c5 : w.cell? ⟨mk, 5, none⟩ = some (.int .u32 dst) := hm.cell 5
  have c6 : w.cell? ⟨mk, 6, none⟩ = some (.int .i64 hop) := hm.cell 6
  have c8 : w.cell? ⟨mk, 8, none⟩ = some (.int .i64 skipped) := hm.cell 8
  have c9 : w.cell? ⟨mk, 9, none⟩ = some (.string key) := hm.cell 9
  have HKI : Hid (KindsIn w) := hk
  have HMB : Hid (Blk w mk (Msg.cells ⟨o, q, 1, route, src, dst, hop, skip, skipped, key, value, count, writer, found, hops, load⟩)) := hm
  have hlt := hm.lt
  obtain ⟨cs, ah, nh, ch, ar, nr, cr, hn⟩ := hn
  have HN : Hid (NC w G nb cb tb mb 0 bits s cs nm ah nh ch ar nr cr) := hn
  have HG : Hid (¬ G mk) := hg
  have H4 : Hid (∀ r ∈ s.rv, In4 r.o r.q) := h4
  have HNM : Hid (nm ≤ 2000000) := hnm
  have HO4 : Hid (In4 o q) := ho4
  have HLE : Hid (s.held.length ≤ 10000) := hlen
  clear hk hm hn hg h4 hnm ho4 hlen
  go_enter Ybad.func13, Ybad.ntmps13
  go_wp2_with fail
  refine wp_region_still_tail 39 (by kernel_rfl) (by kernel_rfl) ?_
  simp only [List.take_succ_cons, List.take_zero, List.drop_succ_cons, List.drop_zero]
  repeat still_step
  refine wpStill_step (fun K hK => ?_)
  go_simp
  refine ⟨_, reply_any 1 (by decide) (by decide) w.drew HKI.out, hK _ ?_⟩
  clear hK K
  repeat still_step
  refine wpStill_nil ?_
  go_wp2_with fail
  obtain ⟨w1, hw1⟩ : ∃ w1, w1 = (w.alloc (.cells (Msg.cells (Msg.reply ⟨o, q, 1, route, src, dst, hop, skip, skipped, key, value, count, writer, found, hops, load⟩)) 59)).drew := ⟨_, rfl⟩
  have hgoal := hw1
  simp only [Msg.cells, Msg.reply] at hgoal
  rw [← hgoal]
  have hn1 : NC w1 (boxG G w.heap.size) nb cb tb mb 0 bits s cs nm ah nh ch ar nr cr := by rw [hw1]; exact (HN.out.boxed _).quiet (Kept.refl _ _).drew
  have hm1 : Blk w1 mk (Msg.cells ⟨o, q, 1, route, src, dst, hop, skip, skipped, key, value, count, writer, found, hops, load⟩) := by rw [hw1]; exact HMB.out.alloc _
  have hr1 : Blk w1 w.heap.size (Msg.cells (Msg.reply ⟨o, q, 1, route, src, dst, hop, skip, skipped, key, value, count, writer, found, hops, load⟩)) := by rw [hw1]; exact Blk.new _ _ _
  have HK1 : Hid (Kept (boxG G w.heap.size) w w1) := by rw [hw1]; exact ((Kept.refl _ w).alloc _).drew
  have HGM : Hid (¬ boxG G w.heap.size mk) := fun hx => HG.out hx.1
  have HGR : Hid (¬ boxG G w.heap.size w.heap.size) := fun hx => hx.2 rfl
  have HNE : Hid (mk ≠ w.heap.size) := by show mk ≠ _; omega
  clear hgoal hw1 c0 c1 c2 c3 c4 c5 c6 c8 c9
  have HN1 : Hid (NC w1 (boxG G w.heap.size) nb cb tb mb 0 bits s cs nm ah nh ch ar nr cr) := hn1
  have HM1 : Hid (Blk w1 mk (Msg.cells ⟨o, q, 1, route, src, dst, hop, skip, skipped, key, value, count, writer, found, hops, load⟩)) := hm1
  have HR1 : Hid (Blk w1 w.heap.size (Msg.cells (Msg.reply ⟨o, q, 1, route, src, dst, hop, skip, skipped, key, value, count, writer, found, hops, load⟩))) := hr1
  have c0 : w1.cell? ⟨mk, 0, none⟩ = some (.int .i32 o) := hm1.cell 0
  have c1 : w1.cell? ⟨mk, 1, none⟩ = some (.int .u32 q) := hm1.cell 1
  have c9 : w1.cell? ⟨mk, 9, none⟩ = some (.string key) := hm1.cell 9
  clear hn1 hm1 hr1
  go_region_law (refine step_call3 (by rfl) 18 (.tmp 53) (.tmp 57) (.tmp 61) 67 43 9 (by rfl) (.pointer (some ⟨nb, 0, none⟩)) (opV o q) (.string key) (by rfl) (by rfl) (by rfl) (by kernel_rfl) (.bool (keepsB s o q key)) (fun w' => NAt w' (boxG G w.heap.size) nb cb tb mb 0 bits nm (keepsS s o q key) ∧ Kept (boxG G w.heap.size) w1.drew w') (by exact keeps_any (boxG G w.heap.size) nb cb tb mb 0 bits nm s o q key w1.drew ⟨_, _, _, _, _, _, _, HN1.out.quiet (Kept.refl _ _).drew⟩ H4.out HNM.out HO4.out) ?_; rintro w2 ⟨hna, hka⟩; have hka' : Kept (boxG G w.heap.size) w1 w2 := ⟨hka.os, hka.tape, hka.output, hka.size, hka.block⟩; have hr2 := Blk.kept HR1.out hka' HGR.out; have d13 : w2.cell? ⟨w.heap.size, 13, none⟩ = some (.bool false) := hr2.cell 13; have f13 := hr2.free 13; have HNA : Hid _ := hna; have HKA : Hid _ := hka'; have HR2 : Hid _ := hr2; clear hna hka hka' hr2)
  all_goals
    have HMM : Hid (Blk w2 mk (Msg.cells ⟨o, q, 1, route, src, dst, hop, skip, skipped, key, value, count, writer, found, hops, load⟩)) := Blk.kept HM1.out HKA.out HGM.out
    cases hkb : keepsB s o q key with
    | false =>
      have HPF : Hid (putFound s ⟨o, q, 1, route, src, dst, hop, skip, skipped, key, value, count, writer, found, hops, load⟩ = false) := hkb
      have HPS : Hid (putS s ⟨o, q, 1, route, src, dst, hop, skip, skipped, key, value, count, writer, found, hops, load⟩ = keepsS s o q key) := if_neg (by rw [HPF.out]; decide)
      clear hkb
      go_wp2
      go_ret
      rw [HPF.out, HPS.out]
      obtain ⟨cs2, ah2, nh2, ch2, ar2, nr2, cr2, hx⟩ := HNA.out
      exact ⟨rfl, Blk.set HR2.out 13 _, ⟨_, _, _, _, _, _, _, hx.setBox 13 _⟩, (HK1.out.trans HKA.out).setBox _ _⟩
    | true =>
      have HPF : Hid (putFound s ⟨o, q, 1, route, src, dst, hop, skip, skipped, key, value, count, writer, found, hops, load⟩ = true) := hkb
      have hnx : ∃ cs2 ah2 nh2 ch2 ar2 nr2 cr2, NC (w2.setCell ⟨w.heap.size, 13, none⟩ (.bool true)) (boxG G w.heap.size) nb cb tb mb 0 bits (keepsS s o q key) cs2 nm ah2 nh2 ch2 ar2 nr2 cr2 := by
        obtain ⟨cs2, ah2, nh2, ch2, ar2, nr2, cr2, hx⟩ := HNA.out
        exact ⟨_, _, _, _, _, _, _, hx.setBox 13 _⟩
      obtain ⟨cs2, ah2, nh2, ch2, ar2, nr2, cr2, hnx⟩ := hnx
      have hmx := Blk.other HMM.out HNE.out 13 (.bool true)
      have hrx := Blk.set HR2.out 13 (.bool true)
      have hkx := (HK1.out.trans HKA.out).setBox 13 (.bool true)
      clear hkb
      go_wp2_with fail
      generalize hw3 : w2.setCell ⟨w.heap.size, 13, none⟩ (.bool true) = w3 at *
      have e61 := hnx.d61
      have e9 : w3.cell? ⟨mk, 9, none⟩ = some (.string key) := hmx.cell 9
      have e10 : w3.cell? ⟨mk, 10, none⟩ = some (.string value) := hmx.cell 10
      have e11 : w3.cell? ⟨mk, 11, none⟩ = some (.int .u64 count) := hmx.cell 11
      have e12 : w3.cell? ⟨mk, 12, none⟩ = some (.int .i32 writer) := hmx.cell 12
      have HNX : Hid (NC w3 (boxG G w.heap.size) nb cb tb mb 0 bits (keepsS s o q key) cs2 nm ah2 nh2 ch2 ar2 nr2 cr2) := hnx
      have HMX : Hid _ := hmx
      have HRX : Hid _ := hrx
      have HKX : Hid _ := hkx
      clear hnx hmx hrx hkx hw3 d13 f13 c0 c1 c9
      refine wp_region_still_tail 18 (by kernel_rfl) (by kernel_rfl) ?_
      simp only [List.take_succ_cons, List.take_zero, List.drop_succ_cons, List.drop_zero]
      repeat still_step
      refine wpStill_nil ?_
      have hmk := meth_keep
      go_wp2_with fail
      have HLK : Hid ((keepsS s o q key).held.length ≤ 10000) := by show (keepsS s o q key).held.length ≤ 10000; rw [keepsS_held]; exact HLE.out
      refine (keep_any (boxG G w.heap.size) nb cb tb mb bits nm (keepsS s o q key) ⟨key, value, count, writer⟩ w3.drew ⟨_, _, _, _, _, _, _, HNX.out.quiet (Kept.refl _ _).drew⟩ HLK.out).mono ?_
      rintro e w4 ⟨rfl, hn4, hk4⟩
      have HN4 : Hid _ := hn4
      have HK4 : Hid (Kept (boxG G w.heap.size) w3 w4) := ⟨hk4.os, hk4.tape, hk4.output, hk4.size, hk4.block⟩
      clear hn4 hk4 e61 e9 e10 e11 e12 hmk
      go_wp2_with fail
      refine (tell_any (boxG G w.heap.size) nb cb tb mb 1 bits nm _ w4 HN4.out).mono ?_
      rintro e w5 ⟨rfl, hn5, hk5⟩
      have HN5 : Hid _ := hn5
      have HK5 : Hid (Kept (boxG G w.heap.size) w3 w5) := HK4.out.trans hk5
      clear hn5 hk5
      go_wp2
      go_ret
      rw [HPF.out]
      refine ⟨rfl, Blk.kept HRX.out HK5.out HGR.out, ?_, HKX.out.trans HK5.out⟩
      have hps : putS s ⟨o, q, 1, route, src, dst, hop, skip, skipped, key, value, count, writer, found, hops, load⟩ = _ := if_pos HPF.out
      rw [hps]
      exact HN5.out

end Go.Proofs.YbulkdywgDoor
