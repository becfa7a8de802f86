/-
  Seat b6272aD: the node's typicalLoad and hasRoom.
-/
import Derived.Test.YbulkdywgDoorNLapse
namespace Go.Proofs.YbulkdywgDoor
open Go.RowKit
set_option linter.unusedVariables false
set_option maxRecDepth 100000

def refreshed (s : MS) : MS := if s.fresh then s else { s with fresh := true, typ := 0, cmp := false }

set_option maxHeartbeats 1000000 in
theorem typ_any (G : Nat → Prop) (nb cb tb mb : Nat) (keeps bits : Int) (nm : Nat) (s : MS) (w : World) (h : NAt w G nb cb tb mb keeps bits nm s) :
    Calls Ybad.prog 25 #[.pointer (some ⟨nb, 0, none⟩)] w fun e w' => e = .returned (.tuple #[.int .i64 (refreshed s).typ, .bool (refreshed s).cmp]) ∧ NAt w' G nb cb tb mb keeps bits nm (refreshed s) ∧ Kept G w w' := by
  obtain ⟨cs, ah, nh, ch, ar, nr, cr, h⟩ := h
  have c4 := h.d4
  have c83 := h.d83
  have c84 := h.d84
  have c85 := h.d85
  have f83 := h.blk.free 83
  have f84 := h.blk.free 84
  have f85 := h.blk.free 85
  have HN : Hid (NC w G nb cb tb mb keeps bits s cs nm ah nh ch ar nr cr) := h
  clear h
  go_enter Ybad.func25, Ybad.ntmps25
  go_wp2
  go_loopw [14] (fun i wr => i = .int .i64 0 ∧ wr = w) (fun _ _ => 0)
  case atStart => exact ⟨rfl, rfl⟩
  case round =>
    obtain ⟨rfl, rfl⟩ := hrel
    by_cases hf : s.fresh = true
    · have HR : Hid (refreshed s = s) := if_pos hf
      rw [hf] at c85
      go_wp2
      go_quiet (fail)
      go_wp2
      go_ret2
      rw [HR.out]
      exact ⟨rfl, ⟨_, _, _, _, _, _, _, HN.out.quiet ((Kept.refl _ _).drewN _)⟩, (Kept.refl _ _).drewN _⟩
    · have HR : Hid (refreshed s = { s with fresh := true, typ := 0, cmp := false }) := if_neg hf
      have hf' : s.fresh = false := by simpa using hf
      rw [hf'] at c85
      go_wp2
      go_loopw [6, 55] (fun r i wx => r = .slice none 0 0 ∧ i = .int .i64 0 ∧ wx = wr.setCell ⟨nb, 85, none⟩ (.bool true)) (fun _ _ _ => 0)
      case atStart => exact ⟨rfl, rfl, rfl⟩
      case round =>
        obtain ⟨rfl, rfl, rfl⟩ := hrel
        go_wp2
        go_quiet (fail)
        go_wp2
        go_ret2
        rw [HR.out]
        have h1 := HN.out.setN 85 (.bool true) (s' := { s with fresh := true }) (HN.out.cells.set85 true) rfl rfl rfl rfl
        have h2 := h1.setN 83 (.int .i64 0) (s' := { s with fresh := true, typ := 0 }) (h1.cells.set83 0) rfl rfl rfl rfl
        have h3 := h2.setN 84 (.bool false) (s' := { s with fresh := true, typ := 0, cmp := false }) (h2.cells.set84 false) rfl rfl rfl rfl
        exact ⟨rfl, ⟨_, _, _, _, _, _, _, h3.quiet ((Kept.refl _ _).drewN _)⟩, ((((Kept.refl G _).setCell (p := ⟨nb, 85, none⟩) HN.out.g.1 _).setCell (p := ⟨nb, 83, none⟩) HN.out.g.1 _).setCell (p := ⟨nb, 84, none⟩) HN.out.g.1 _).drewN _⟩

set_option maxHeartbeats 1000000 in
theorem hasRoom_any (G : Nat → Prop) (nb cb tb mb : Nat) (keeps bits : Int) (nm : Nat) (s : MS) (key : ByteArray) (w : World) (h : NAt w G nb cb tb mb keeps bits nm s) (h4 : ∀ r ∈ s.rv, In4 r.o r.q) (hnm : nm ≤ 2000000) :
    Calls Ybad.prog 21 #[.pointer (some ⟨nb, 0, none⟩), .string key] w fun e w' => e = .returned (.bool (roomB s key)) ∧ NAt w' G nb cb tb mb keeps bits nm (roomS s key) ∧ Kept G w w' := by
  have H0 : Hid (NAt w G nb cb tb mb keeps bits nm s) := h
  have HF : Hid (∀ r ∈ s.rv, In4 r.o r.q) := h4
  obtain ⟨cs, ah, nh, ch, ar, nr, cr, h⟩ := h
  have hmh := meth_holds
  have hml := meth_load
  have c61 := h.d61
  have HN : Hid (NC w G nb cb tb mb keeps bits s cs nm ah nh ch ar nr cr) := h
  have HNM : Hid (nm ≤ 2000000) := hnm
  clear h h4 hnm
  go_enter Ybad.func21, Ybad.ntmps21
  go_wp2_with fail
  refine (holds_any cb ah nh ch s.held key w HN.out.q0 HN.out.held.items).mono ?_
  rintro e w1 ⟨rfl, rfl⟩
  rcases hiOf_cases s.held key with ⟨e1, e2⟩ | ⟨j, x, e1, e2, e3⟩
  · have HB : Hid (roomB s key = fits (weigh s) ∧ roomS s key = weigh s) := ⟨if_neg (by rw [e1]; decide), if_neg (by rw [e1]; decide)⟩
    have hd : decide ((0 : Int) ≤ hiOf s.held key) = false := by rw [e1]; decide
    rw [hd]
    clear e1 e2 hd
    go_wp2_with fail
    refine (nlapse_any G nb cb tb mb keeps bits nm s w1 H0.out HF.out).mono ?_
    rintro e w2 ⟨rfl, hm2, hk2⟩
    have HK2 : Hid (Kept G w1 w2) := hk2
    have HM2 : Hid _ := hm2
    clear hk2 hm2
    go_wp2_with fail
    refine (typ_any G nb cb tb mb keeps bits nm _ w2 HM2.out).mono ?_
    rintro e w3 ⟨rfl, hm3, hk3⟩
    have HK3 : Hid (Kept G w1 w3) := HK2.out.trans hk3
    have HW : Hid (refreshed { s with rv := (lapseR s.now s.rv s.res).1, res := (lapseR s.now s.rv s.res).2 } = weigh s) := rfl
    rw [HW.out] at hm3 ⊢
    obtain ⟨t, ht⟩ : ∃ t, t = weigh s := ⟨_, rfl⟩
    rw [← ht] at hm3 ⊢
    have HT : Hid (t = weigh s) := ht
    clear ht hk3
    obtain ⟨cs, ah, nh, ch, ar, nr, cr, hm3⟩ := hm3
    have HM3 : Hid (NC w3 G nb cb tb mb keeps bits t cs nm ah nh ch ar nr cr) := hm3
    have z61 := hm3.d61
    have z86 := hm3.d86
    have zq0 := hm3.q0
    have hlen : ∀ (n : Nat) (ty : TypeId), (Builtin.len_ #[39] ty #[.map (some mb)]).run Ybad.prog (w3.drewN n) = .ok (.int .i64 t.res.length) (w3.drewN n) := fun n ty => (hm3.map.eqv (w' := w3.drewN n) rfl).len ty
    clear hm3 c61
    by_cases hcm : t.cmp = true
    · rw [hcm]
      have HQ0 : Hid (∀ q : Nat, (w3.drewN q).cell? ⟨cb, 0, none⟩ = some (.slice ah nh ch)) := fun q => zq0
      have nhs := HM3.out.held.small
      have nps : t.res.length ≤ 2000000 := Nat.le_trans HM3.out.map.length_le HNM.out
      have hwr : IntKind.i64.wrap ((nh : Int) + (t.res.length : Int)) = (nh : Int) + (t.res.length : Int) := w64 (by omega) (by omega)
      go_wp2_with fail
      go_quiet ((go_at_call 78; refine Calls.quiet_of_same (load_any cb ah nh ch _ (HQ0.out _))))
      go_wp2
      go_ret
      have hfi : fits t = decide ((nh : Int) + (t.res.length : Int) < wrap64 (wrap64 (2 * t.typ) + 16)) := by unfold fits; rw [hcm, HM3.out.held.len]; rfl
      rw [HB.out.1, HB.out.2, ← HT.out, hfi]
      exact ⟨rfl, ⟨_, _, _, _, _, _, _, HM3.out.quiet ((Kept.refl _ _).drewN _)⟩, HK3.out.drewN _⟩
    · have hcm' : t.cmp = false := by simpa using hcm
      rw [hcm']
      go_wp2_with fail
      go_quiet (fail)
      go_wp2
      go_ret
      have hfi : fits t = true := by unfold fits; rw [hcm']; rfl
      rw [HB.out.1, HB.out.2, ← HT.out, hfi]
      exact ⟨rfl, ⟨_, _, _, _, _, _, _, HM3.out.quiet ((Kept.refl _ _).drewN _)⟩, HK3.out.drewN _⟩
  · have hge : (0 : Int) ≤ hiOf s.held key := by rw [e1]; omega
    have HB : Hid (roomB s key = true ∧ roomS s key = s) := ⟨if_pos hge, if_pos hge⟩
    have hd : decide ((0 : Int) ≤ hiOf s.held key) = true := by rw [e1]; simp
    rw [hd]
    clear e1 e2 e3 hge hd
    go_wp2
    go_ret
    rw [HB.out.1, HB.out.2]
    exact ⟨rfl, H0.out, Kept.refl G w1⟩

end Go.Proofs.YbulkdywgDoor
