/-
  Seat b6272aD: the node's tellLoad.
-/
import Derived.Test.YbulkdywgDoorKeeps
namespace Go.Proofs.YbulkdywgDoor
open Go.RowKit
set_option linter.unusedVariables false
set_option maxRecDepth 100000

theorem around_any (nb : Nat) (v : Value) (w : World) (hc : w.cell? ⟨nb, 4, none⟩ = some (.slice none 0 0)) :
    Calls Ybad.prog 22 #[.pointer (some ⟨nb, 0, none⟩), v] w fun e w' => e = .returned (.tuple #[]) ∧ w' = w := by
  go_enter Ybad.func22, Ybad.ntmps22
  go_wp2
  go_loopw [13] (fun i wr => i = .int .i64 0 ∧ wr = w) (fun _ _ => 0)
  case atStart => exact ⟨rfl, rfl⟩
  case round =>
    obtain ⟨rfl, rfl⟩ := hrel
    go_wp2
    refine bodyPost_end (results_none rfl _ _ _) rfl ?_
    exact ⟨rfl, rfl⟩

/-- What 'told' becomes. -/
def stepOf (told : Int) : Int := wrap64 (told + if 1 < wrap64 (told.tdiv 64) then wrap64 (told.tdiv 64) else 1)
def toldOf (load told : Int) : Int := if load < stepOf told then told else load

set_option maxHeartbeats 1000000 in
theorem tell_any (G : Nat → Prop) (nb cb tb mb : Nat) (keeps bits : Int) (nm : Nat) (s : MS) (w : World) (h : NAt w G nb cb tb mb keeps bits nm s) :
    Calls Ybad.prog 19 #[.pointer (some ⟨nb, 0, none⟩)] w fun e w' => e = .returned (.tuple #[]) ∧ NAt w' G nb cb tb mb keeps bits nm { s with told := toldOf s.held.length s.told } ∧ Kept G w w' := by
  obtain ⟨cs, ah, nh, ch, ar, nr, cr, h⟩ := h
  have hml := meth_load
  have c61 := h.d61
  have c82 := h.d82
  have f82 := h.blk.free 82
  have c4 := h.d4
  have hlt := h.blk.lt
  have HN : Hid (NC w G nb cb tb mb keeps bits s cs nm ah nh ch ar nr cr) := h
  have HL : Hid (s.held.length = nh) := h.held.len
  clear h
  go_enter Ybad.func19, Ybad.ntmps19
  go_wp2_with fail
  refine (load_any cb ah nh ch w HN.out.q0).mono ?_
  rintro e w1 ⟨rfl, rfl⟩
  clear c61 hml
  have hnb := hlt
  obtain ⟨E, hE⟩ : ∃ E, (if 1 < wrap64 (s.told.tdiv 64) then wrap64 (s.told.tdiv 64) else 1) = E := ⟨_, rfl⟩
  have hst : stepOf s.told = wrap64 (s.told + E) := by unfold stepOf; rw [hE]
  by_cases hd : (nh : Int) < stepOf s.told
  · have HT : Hid (toldOf s.held.length s.told = s.told) := by show toldOf _ _ = _; rw [HL.out]; exact if_pos hd
    have hd1 : decide ((nh : Int) < wrap64 (s.told + E)) = true := decide_eq_true (hst ▸ hd)
    clear hd hst
    go_wp2
    go_quiet (fail)
    go_wp2
    refine bodyPost_ret (results_none rfl _ _ _) rfl ?_
    rw [HT.out]
    exact ⟨rfl, ⟨_, _, _, _, _, _, _, HN.out.quiet ((Kept.refl _ _).drewN _)⟩, (Kept.refl _ _).drewN _⟩
  · have HT : Hid (toldOf s.held.length s.told = nh) := by show toldOf _ _ = _; rw [HL.out]; exact if_neg hd
    have hd1 : decide ((nh : Int) < wrap64 (s.told + E)) = false := decide_eq_false (hst ▸ hd)
    clear hd hst
    go_wp2
    go_quiet (fail)
    go_wp2_with fail
    have hn2 : ∀ ob : Obj, NC (((w1.drewN nq).setCell ⟨nb, 82, none⟩ (.int .i64 nh)).alloc ob) G nb cb tb mb keeps bits { s with told := nh } (cs.setIfInBounds 82 (.int .i64 nh)) nm ah nh ch ar nr cr := fun ob => ((HN.out.quiet ((Kept.refl _ w1).drewN nq)).setN 82 (.int .i64 nh) (s' := { s with told := nh }) (HN.out.cells.set82 nh) rfl rfl rfl rfl).quiet ((Kept.refl _ _).alloc ob)
    have HN2 : Hid _ := hn2
    clear hn2
    refine Calls.mono (around_any nb (.pointer (some ⟨w1.heap.size, 0, none⟩)) _ (HN2.out _).d4) ?_
    rintro e w2 ⟨rfl, rfl⟩
    go_wp2
    refine bodyPost_end (results_none rfl _ _ _) rfl ?_
    rw [HT.out]
    exact ⟨rfl, ⟨_, _, _, _, _, _, _, HN2.out _⟩, ((((Kept.refl G _).drewN nq).setCell (p := ⟨nb, 82, none⟩) HN.out.g.1 _).alloc _)⟩

end Go.Proofs.YbulkdywgDoor
