/-
  Seat b6272aD: the node's keeps.
-/
import Derived.Test.YbulkdywgDoorTyp
namespace Go.Proofs.YbulkdywgDoor
open Go.RowKit
set_option linter.unusedVariables false
set_option maxRecDepth 100000

/-- Whether room is held for this put under this key. -/
def ours (s : MS) (o q : Int) (key : ByteArray) : Bool := s.res.any (isOp o q) && (lookR s.res o q).toList == key.toList
def keepsB (s : MS) (o q : Int) (key : ByteArray) : Bool := if ours s o q key then true else roomB s key
def keepsS (s : MS) (o q : Int) (key : ByteArray) : MS := if ours s o q key then { s with res := delR s.res o q } else roomS s key

set_option maxHeartbeats 1000000 in
theorem keeps_any (G : Nat → Prop) (nb cb tb mb : Nat) (keeps bits : Int) (nm : Nat) (s : MS) (o q : Int) (key : ByteArray) (w : World) (h : NAt w G nb cb tb mb keeps bits nm s) (h4 : ∀ r ∈ s.rv, In4 r.o r.q) (hnm : nm ≤ 2000000) (ho4 : In4 o q) :
    Calls Ybad.prog 18 #[.pointer (some ⟨nb, 0, none⟩), opV o q, .string key] w fun e w' => e = .returned (.bool (keepsB s o q key)) ∧ NAt w' G nb cb tb mb keeps bits nm (keepsS s o q key) ∧ Kept G w w' := by
  obtain ⟨cs, ah, nh, ch, ar, nr, cr, h⟩ := h
  have hn1 := h.quiet ((Kept.refl _ w).alloc (.cells #[.int .i32 o, .int .u32 q] 43))
  have HK1 : Hid (Kept G w (w.alloc (.cells #[.int .i32 o, .int .u32 q] 43))) := (Kept.refl G w).alloc _
  have hbx := Blk.new w #[.int .i32 o, .int .u32 q] 43
  have HF : Hid (∀ r ∈ s.rv, In4 r.o r.q) := h4
  have HNM : Hid (nm ≤ 2000000) := hnm
  have HO4 : Hid (In4 o q) := ho4
  have hlt := h.blk.lt
  have c86 := h.d86
  have HL : Hid (∀ n : Nat, (Instr.lookup 39 (.map (some mb)) (.agg #[.int .i32 o, .int .u32 q]) true).run Ybad.prog ((w.alloc (.cells #[.int .i32 o, .int .u32 q] 43)).drewN n) = .ok (.tuple #[.string (lookR s.res o q), .bool (s.res.any (isOp o q))]) ((w.alloc (.cells #[.int .i32 o, .int .u32 q] 43)).drewN n)) :=
    fun n => (hn1.map.eqv (w' := (w.alloc (.cells #[.int .i32 o, .int .u32 q] 43)).drewN n) rfl).look ho4
  have HN1 : Hid (NC (w.alloc (.cells #[.int .i32 o, .int .u32 q] 43)) G nb cb tb mb keeps bits s cs nm ah nh ch ar nr cr) := hn1
  clear h h4 hnm ho4 hn1 hbx
  unfold opV
  go_enter Ybad.func18, Ybad.ntmps18
  go_wp2_with fail
  by_cases hany : s.res.any (isOp o q) = true
  · by_cases hkey : ((lookR s.res o q).toList == key.toList) = true
    · have HB : Hid (keepsB s o q key = true ∧ keepsS s o q key = { s with res := delR s.res o q }) := by
        have ho : ours s o q key = true := by unfold ours; rw [hany, hkey]; rfl
        exact ⟨if_pos ho, if_pos ho⟩
      have hl := HL.out
      rw [hany] at hl
      clear hany
      go_quiet (fail)
      clear hl
      go_wp2
      go_region_law (refine step_delete (by rfl) (.tmp 27) (.tmp 28) (by rfl) mb nm s.res o q (by rfl) (by rfl) (by exact HN1.out.map.eqv rfl) HO4.out ?_; intro w2 hmap hgrow; have HM2 : Hid _ := hmap; have HG2 : Hid _ := hgrow; clear hmap hgrow)
      all_goals
        go_wp2
        go_ret
        rw [HB.out.1, HB.out.2]
        have hg : World.grownBy (w.alloc (.cells #[.int .i32 o, .int .u32 q] 43)) w2 (some mb) := ⟨HG2.out.os, HG2.out.tape, HG2.out.output, HG2.out.size, HG2.out.block⟩
        exact ⟨rfl, ⟨_, _, _, _, _, _, _, HN1.out.setMap HM2.out hg⟩, HK1.out.grown hg (fun k e => by cases e; exact HN1.out.g.2.2.2)⟩
    · have hkey' : ((lookR s.res o q).toList == key.toList) = false := by simpa using hkey
      have HB : Hid (keepsB s o q key = roomB s key ∧ keepsS s o q key = roomS s key) := by
        have ho : ours s o q key = false := by unfold ours; rw [hany, hkey']; rfl
        exact ⟨if_neg (by rw [ho]; decide), if_neg (by rw [ho]; decide)⟩
      have hl := HL.out
      rw [hany] at hl
      clear hany hkey
      go_quiet (fail)
      clear hl
      go_wp2_with fail
      refine (hasRoom_any G nb cb tb mb keeps bits nm s key ((w.alloc (.cells #[.int .i32 o, .int .u32 q] 43)).drewN nq) ⟨_, _, _, _, _, _, _, HN1.out.quiet ((Kept.refl _ _).drewN _)⟩ HF.out HNM.out).mono ?_
      rintro e w2 ⟨rfl, hm2, hk2⟩
      have HM2 : Hid _ := hm2
      have HK2 : Hid _ := hk2
      clear hm2 hk2
      go_wp2
      go_ret
      rw [HB.out.1, HB.out.2]
      exact ⟨rfl, HM2.out, (HK1.out.drewN nq).trans HK2.out⟩
  · have hany' : s.res.any (isOp o q) = false := by simpa using hany
    have HB : Hid (keepsB s o q key = roomB s key ∧ keepsS s o q key = roomS s key) := by
      have ho : ours s o q key = false := by unfold ours; rw [hany']; rfl
      exact ⟨if_neg (by rw [ho]; decide), if_neg (by rw [ho]; decide)⟩
    have hl := HL.out
    rw [hany'] at hl
    clear hany hany'
    go_quiet (fail)
    clear hl
    go_wp2_with fail
    refine (hasRoom_any G nb cb tb mb keeps bits nm s key ((w.alloc (.cells #[.int .i32 o, .int .u32 q] 43)).drewN nq) ⟨_, _, _, _, _, _, _, HN1.out.quiet ((Kept.refl _ _).drewN _)⟩ HF.out HNM.out).mono ?_
    rintro e w2 ⟨rfl, hm2, hk2⟩
    have HM2 : Hid _ := hm2
    have HK2 : Hid _ := hk2
    clear hm2 hk2
    go_wp2
    go_ret
    rw [HB.out.1, HB.out.2]
    exact ⟨rfl, HM2.out, (HK1.out.drewN nq).trans HK2.out⟩

end Go.Proofs.YbulkdywgDoor
