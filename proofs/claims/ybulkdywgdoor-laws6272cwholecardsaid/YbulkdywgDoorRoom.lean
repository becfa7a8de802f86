/-
  Seat b6272aD: the model's room.
-/
import Derived.Test.YbulkdywgDoorLapse
namespace Go.Proofs.YbulkdywgDoor
open Go.RowKit
set_option linter.unusedVariables false
set_option maxRecDepth 100000

theorem hiOf_cases (its : List It) (key : ByteArray) :
    (hiOf its key = -1 ∧ ∀ y ∈ its, y.k ≠ key) ∨ ∃ (j : Nat) (x : It), hiOf its key = (j : Int) ∧ its[j]? = some x ∧ x.k = key := by
  unfold hiOf
  cases h : its.findIdx? (fun x => decide (x.k = key)) with
  | none =>
    rw [List.findIdx?_eq_none_iff] at h
    exact .inl ⟨rfl, fun y hy => by simpa using h y hy⟩
  | some j =>
    obtain ⟨hj, h1, _⟩ := List.findIdx?_eq_some_iff_getElem.1 h
    exact .inr ⟨j, its[j], rfl, by simp, by simpa using h1⟩

/-- The state behind lapse and the weighing. -/
def weigh (s : MS) : MS :=
  let s1 : MS := { s with rv := (lapseR s.now s.rv s.res).1, res := (lapseR s.now s.rv s.res).2 }
  if s1.fresh then s1 else { s1 with fresh := true, typ := 0, cmp := false }
/-- Whether there is room. -/
def fits (s : MS) : Bool := !s.cmp || decide ((s.held.length : Int) + (s.res.length : Int) < wrap64 (wrap64 (2 * s.typ) + 16))

def roomB (s : MS) (key : ByteArray) : Bool := if 0 ≤ hiOf s.held key then true else fits (weigh s)
def roomS (s : MS) (key : ByteArray) : MS := if 0 ≤ hiOf s.held key then s else weigh s

set_option maxHeartbeats 1000000 in
theorem room_any (G : Nat → Prop) (bs : Nat) (s : MS) (key : ByteArray) (w : World) (h : MAt w G bs s) (hf : Fine s.res) :
    Calls Ybad.prog 11 #[.pointer (some ⟨bs, 0, none⟩), .string key] w fun e w' => e = .returned (.bool (roomB s key)) ∧ MAt w' G bs (roomS s key) ∧ Kept G w w' := by
  obtain ⟨ah, nh, ch, ap, np, cp, ar, nr, cr, hm⟩ := h
  have c0 := hm.c0
  have HM : Hid (MC w G bs s ah nh ch ap np cp ar nr cr) := hm
  have HF : Hid (Fine s.res) := hf
  clear hm hf
  go_enter Ybad.func11, Ybad.ntmps11
  go_wp2_with fail
  refine (hi_any bs ah nh ch s.held key w c0 HM.out.held.items).mono ?_
  rintro e w1 ⟨rfl, rfl⟩
  rcases hiOf_cases s.held key with ⟨e1, e2⟩ | ⟨j, x, e1, e2, e3⟩
  · have HE : Hid (hiOf s.held key = -1) := e1
    rw [e1]
    clear e1 e2
    go_wp2_with fail
    refine (lapse_any G bs s w1 ⟨_, _, _, _, _, _, _, _, _, HM.out⟩ HF.out).mono ?_
    rintro e w2 ⟨rfl, hm2, hk2⟩
    obtain ⟨s1, hs1⟩ : ∃ s1 : MS, s1 = { s with rv := (lapseR s.now s.rv s.res).1, res := (lapseR s.now s.rv s.res).2 } := ⟨_, rfl⟩
    rw [← hs1] at hm2
    have HS1 : Hid (s1 = { s with rv := (lapseR s.now s.rv s.res).1, res := (lapseR s.now s.rv s.res).2 }) := hs1
    have HK2 : Hid (Kept G w1 w2) := hk2
    obtain ⟨ah, nh, ch, ap, np, cp, ar, nr, cr, hm2⟩ := hm2
    have HM2 : Hid (MC w2 G bs s1 ah nh ch ap np cp ar nr cr) := hm2
    have d0 := hm2.c0
    have d1 := hm2.c1
    have d5 := hm2.c5
    have d6 := hm2.c6
    have d7 := hm2.c7
    have f5 := hm2.blk.free 5
    have f6 := hm2.blk.free 6
    have f7 := hm2.blk.free 7
    have nhs := hm2.held.small
    have nps := hm2.res.small
    have hwr : IntKind.i64.wrap ((nh : Int) + (np : Int)) = (nh : Int) + (np : Int) := w64 (by omega) (by omega)
    clear hs1 hk2 hm2
    have HN : Hid (s1.held.length = nh ∧ s1.res.length = np) := ⟨HM2.out.held.len, HM2.out.res.len⟩
    have HB : Hid (roomB s key = fits (weigh s) ∧ roomS s key = weigh s) := ⟨if_neg (by rw [HE.out]; decide), if_neg (by rw [HE.out]; decide)⟩
    have HWE : Hid (weigh s = if s1.fresh then s1 else { s1 with fresh := true, typ := 0, cmp := false }) := by rw [HS1.out]; rfl
    by_cases hfr : s1.fresh = true
    · have HWF : Hid (weigh s = s1) := by have := HWE.out; rwa [if_pos hfr] at this
      by_cases hcm : s1.cmp = true
      · have HFI : Hid (fits s1 = decide ((nh : Int) + (np : Int) < wrap64 (wrap64 (2 * s1.typ) + 16))) := by
          show fits s1 = _
          unfold fits
          rw [hcm, HN.out.1, HN.out.2]
          rfl
        rw [hfr] at d7
        rw [hcm] at d6
        go_wp2
        go_quiet (fail)
        go_wp2
        go_ret
        rw [HB.out.1, HB.out.2, HWF.out, HFI.out]
        exact ⟨rfl, ⟨_, _, _, _, _, _, _, _, _, HM2.out.kept (G' := fun _ => False) ((Kept.refl _ w2).drewN _) (fun _ _ _ => id)⟩, HK2.out.drewN _⟩
      · have hcm' : s1.cmp = false := by simpa using hcm
        have HFI : Hid (fits s1 = true) := by
          show fits s1 = _
          unfold fits
          rw [hcm']
          rfl
        rw [hfr] at d7
        rw [hcm'] at d6
        go_wp2
        go_quiet (fail)
        go_wp2
        go_ret
        rw [HB.out.1, HB.out.2, HWF.out, HFI.out]
        exact ⟨rfl, ⟨_, _, _, _, _, _, _, _, _, HM2.out.kept (G' := fun _ => False) ((Kept.refl _ w2).drewN _) (fun _ _ _ => id)⟩, HK2.out.drewN _⟩
    · have hfr' : s1.fresh = false := by simpa using hfr
      have HWF : Hid (weigh s = { s1 with fresh := true, typ := 0, cmp := false }) := by have := HWE.out; rwa [if_neg hfr] at this
      rw [hfr'] at d7
      go_wp2
      go_quiet (fail)
      go_wp2
      go_ret
      rw [HB.out.1, HB.out.2, HWF.out]
      exact ⟨rfl, ⟨_, _, _, _, _, _, _, _, _, (((HM2.out.setFresh true).setTyp 0).setCmp false).kept (G' := fun _ => False) ((Kept.refl _ _).drewN _) (fun _ _ _ => id)⟩, (((HK2.out.setCell HM2.out.gs _).setCell HM2.out.gs _).setCell HM2.out.gs _).drewN _⟩
  · have hge : (0 : Int) ≤ hiOf s.held key := by rw [e1]; omega
    have HB : Hid (roomB s key = true ∧ roomS s key = s) := ⟨if_pos hge, if_pos hge⟩
    rw [e1]
    clear e1 e2 e3 hge
    go_wp2
    go_ret
    rw [HB.out.1, HB.out.2]
    exact ⟨rfl, ⟨_, _, _, _, _, _, _, _, _, HM.out⟩, Kept.refl G w1⟩

end Go.Proofs.YbulkdywgDoor
