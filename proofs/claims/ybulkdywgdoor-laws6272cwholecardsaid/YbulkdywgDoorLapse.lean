/-
  Seat b6272aD: the model's lapse.
-/
import Derived.Test.YbulkdywgDoorDrop
namespace Go.Proofs.YbulkdywgDoor
open Go.RowKit
set_option linter.unusedVariables false
set_option maxRecDepth 100000

def lapseR (now : Int) : List Rs → List Pr → List Rs × List Pr
  | [], res => ([], res)
  | r :: rs, res => if r.t ≤ now then lapseR now rs (delR res r.o r.q) else (r :: rs, res)

def sliceLen (w : World) (a : Addr) : Nat := match w.cell? a with | some (.slice _ n _) => n | _ => 0

theorem sliceLen_of {w : World} {a : Addr} {x : Option Addr} {n c : Nat} (h : w.cell? a = some (.slice x n c)) : sliceLen w a = n := by unfold sliceLen; rw [h]

theorem MC.popRv {w : World} {G : Nat → Prop} {bs : Nat} {s : MS} {ah : Option Addr} {nh ch : Nat} {ap : Option Addr} {np cp : Nat} {b o nr cr : Nat} {r : Rs} {rs : List Rs} (h : MC w G bs s ah nh ch ap np cp (some ⟨b, o, none⟩) (nr + 1) cr) (hs : s.rv = r :: rs) :
    ∃ A, (if cr = 1 then some ⟨b, o, none⟩ else some ⟨b, o + 3, none⟩ : Option Addr) = some A ∧ MC (w.setCell ⟨bs, 2, none⟩ (.slice (some A) nr (cr - 1))) G bs { s with rv := rs } ah nh ch ap np cp (some A) nr (cr - 1) := by
  have hrow := h.rv
  rw [hs] at hrow
  have hle := hrow.le
  have ht := hrow.tail rs_len
  by_cases hc : cr = 1
  · refine ⟨⟨b, o, none⟩, by rw [if_pos hc], h.setRv (w' := w) ?_ (grown_refl _ _) (fun _ e => .inl e)⟩
    have h0 : nr = 0 := by omega
    subst hc
    subst h0
    refine ⟨ht.len, ht.small, ht.le, ht.cmax, ht.pos, ht.flat, ?_⟩
    rcases hrow.row with ⟨h0, _⟩ | ⟨b', o', cs, h1, h2, h3, h4⟩
    · cases h0
    · cases h1
      have hn : rs = [] := List.eq_nil_of_length_eq_zero ht.len
      subst hn
      exact .inr ⟨b, o, cs, rfl, h2, by omega, by simp⟩
  · exact ⟨⟨b, o + 3, none⟩, by rw [if_neg hc], h.setRv (w' := w) ht (grown_refl _ _) (fun _ e => .inl e)⟩

set_option maxHeartbeats 1000000 in
theorem lapse_any (G : Nat → Prop) (bs : Nat) (s : MS) (w : World) (h : MAt w G bs s) (hf : Fine s.res) :
    Calls Ybad.prog 16 #[.pointer (some ⟨bs, 0, none⟩)] w fun e w' => e = .returned (.tuple #[]) ∧ MAt w' G bs { s with rv := (lapseR s.now s.rv s.res).1, res := (lapseR s.now s.rv s.res).2 } ∧ Kept G w w' := by
  have H0 : Hid (MAt w G bs s) := h
  have HF : Hid (Fine s.res) := hf
  clear h hf
  go_enter Ybad.func16, Ybad.ntmps16
  go_wp2
  go_loopw [2] (fun _ wr => ∃ rs res, Hid (lapseR s.now rs res = lapseR s.now s.rv s.res) ∧ Hid (MAt wr G bs { s with rv := rs, res := res }) ∧ Hid (Fine res) ∧ Hid (Kept G w wr)) (fun _ wr => sliceLen wr ⟨bs, 2, none⟩)
  case atStart => exact ⟨s.rv, s.res, rfl, H0.out, HF.out, Kept.refl G w⟩
  case round =>
    obtain ⟨rs, res, HE, HM, HFR, HK⟩ := hrel
    obtain ⟨ah, nh, ch, ap, np, cp, ar, nr, cr, hm⟩ := HM.out
    have HM1 : Hid (MC wr G bs { s with rv := rs, res := res } ah nh ch ap np cp ar nr cr) := hm
    have c2 := hm.c2
    have hlen := hm.rv.len
    cases rs with
    | nil =>
      have hnr : nr = 0 := by simpa using hlen.symm
      subst hnr
      clear hm hlen
      go_wp2
      go_quiet (fail)
      go_wp2
      refine bodyPost_end (results_none rfl _ _ _) rfl ?_
      refine ⟨rfl, ?_, HK.out.drewN _⟩
      rw [← HE.out]
      exact ⟨_, _, _, _, _, _, _, _, _, HM1.out.kept (G' := fun _ => False) ((Kept.refl _ wr).drewN _) (fun _ _ _ => id)⟩
    | cons r rs =>
      obtain ⟨n0, rfl⟩ : ∃ n0, nr = n0 + 1 := ⟨nr - 1, by simp at hlen; omega⟩
      have hress := hm.rv.ress
      rcases hress.2.2 with h0 | ⟨b, o, rfl, hcells⟩
      · omega
      obtain ⟨q0, q1, q2⟩ := hcells 0 r rfl
      simp only [Nat.zero_mul, Nat.add_zero] at q0 q1 q2
      have c3 := hm.c3
      have c1 := hm.c1
      simp only at c3
      clear hcells hress hm hlen
      by_cases hd : r.t ≤ s.now
      · have hd1 : decide (r.t ≤ s.now) = true := decide_eq_true hd
        go_wp2
        go_quiet (fail)
        go_wp2_with fail
        refine (ri_any bs ap np cp res r.o r.q (wr.drewN nq) c1 (show Pairs (wr.drewN _) ap np res from HM1.out.res.pairs)).mono ?_
        rintro e w1 ⟨rfl, hk1⟩
        have hk0 : Kept (fun _ => False) wr w1 := ((Kept.refl _ wr).drewN nq).trans hk1
        have hm1 := HM1.out.kept hk0 (fun _ _ _ => id)
        have HK1 : Hid (Kept G w w1) := HK.out.trans (hk0.mono (fun _ => False.elim))
        have HLN := HM1.out.rv.len
        have HMY : Hid (MC w1 G bs { s with rv := r :: rs, res := res } ah nh ch ap np cp (some ⟨b, o, none⟩) (n0 + 1) cr) := hm1
        have HD : Hid (r.t ≤ s.now) := hd
        clear hk0 hm1 hk1
        rcases riOf_cases HFR.out r.o r.q with ⟨e1, e2, e3⟩ | ⟨j, x, e1, e2, e3, e4, e5, e6, e7, e8⟩
        · have HE3 : Hid (delR res r.o r.q = res) := e3
          clear e3 e2
          have HMX : MAt w1 G bs { s with rv := r :: rs, res := res } := ⟨_, _, _, _, _, _, _, _, _, HMY.out⟩
          have HKX := HK1
          rw [e1]
          obtain ⟨ah2, nh2, ch2, ap2, np2, cp2, ar2, nr2, cr2, hm2⟩ := HMX
          have hl2 := hm2.rv.len
          obtain ⟨n2, rfl⟩ : ∃ n2, nr2 = n2 + 1 := ⟨nr2 - 1, by simp at hl2; omega⟩
          rcases hm2.rv.ress.2.2 with h0 | ⟨b2, o2, rfl, -⟩
          · omega
          obtain ⟨A, hA, hpop⟩ := hm2.popRv rfl
          have d2 := hm2.c2
          have df := hm2.blk.free 2
          have HP : Hid _ := hpop
          have hgs : G bs := hm2.gs
          have hpl : n2 < n0 + 1 := by
            have e1 := hm2.rv.len
            simp at e1 HLN
            omega
          have HC : Hid (wr.cell? ⟨bs, 2, none⟩ = some (.slice (some ⟨b, o, none⟩) (n0 + 1) cr)) := c2
          clear hpop hm2 hl2 c1 c2 c3 q0 q1 q2
          have HGS : Hid (G bs) := hgs
          clear hgs
          go_wp2
          go_roundw
          case rel =>
            refine ⟨rs, res, ?_, ⟨_, _, _, _, _, _, _, _, _, HP.out⟩, HFR.out, ?_⟩
            · have he := HE.out
              rw [lapseR, if_pos HD.out] at he
              exact HE3.out ▸ he
            · exact HKX.out.setCell HGS.out _
          case measure =>
            have e1 : sliceLen wr ⟨bs, 2, none⟩ = n0 + 1 := by unfold sliceLen; rw [HC.out]
            rw [e1]
            exact Nat.lt_of_le_of_lt (Nat.le_of_eq (sliceLen_of HP.out.c2)) hpl
        · have HE7 : Hid (delR res r.o r.q = res.take j ++ res.drop (j + 1)) := e7
          have hjl : j < res.length := (List.getElem?_eq_some_iff.1 e2).1
          clear e2 e3 e4 e5 e6 e7 e8
          rw [e1]
          go_wp2_with fail
          refine (drop_any G bs { s with rv := r :: rs, res := res } j w1 ⟨_, _, _, _, _, _, _, _, _, HMY.out⟩ hjl).mono ?_
          rintro e w2 ⟨rfl, HMX, hk2⟩
          have HKX : Hid (Kept G w w2) := HK1.out.trans hk2
          simp only at HMX
          rw [← HE7.out] at HMX
          clear hk2
          obtain ⟨ah2, nh2, ch2, ap2, np2, cp2, ar2, nr2, cr2, hm2⟩ := HMX
          have hl2 := hm2.rv.len
          obtain ⟨n2, rfl⟩ : ∃ n2, nr2 = n2 + 1 := ⟨nr2 - 1, by simp at hl2; omega⟩
          rcases hm2.rv.ress.2.2 with h0 | ⟨b2, o2, rfl, -⟩
          · omega
          obtain ⟨A, hA, hpop⟩ := hm2.popRv rfl
          have d2 := hm2.c2
          have df := hm2.blk.free 2
          have HP : Hid _ := hpop
          have hgs : G bs := hm2.gs
          have hpl : n2 < n0 + 1 := by
            have e1 := hm2.rv.len
            simp at e1 HLN
            omega
          have HC : Hid (wr.cell? ⟨bs, 2, none⟩ = some (.slice (some ⟨b, o, none⟩) (n0 + 1) cr)) := c2
          clear hpop hm2 hl2 c1 c2 c3 q0 q1 q2
          have HGS : Hid (G bs) := hgs
          clear hgs
          go_wp2
          go_roundw
          case rel =>
            refine ⟨rs, delR res r.o r.q, ?_, ⟨_, _, _, _, _, _, _, _, _, HP.out⟩, HFR.out.del _ _, ?_⟩
            · have he := HE.out
              rw [lapseR, if_pos HD.out] at he
              exact he
            · exact HKX.out.setCell HGS.out _
          case measure =>
            have e1 : sliceLen wr ⟨bs, 2, none⟩ = n0 + 1 := by unfold sliceLen; rw [HC.out]
            rw [e1]
            exact Nat.lt_of_le_of_lt (Nat.le_of_eq (sliceLen_of HP.out.c2)) hpl
      · have hd1 : decide (r.t ≤ s.now) = false := decide_eq_false hd
        have HD : Hid (¬ r.t ≤ s.now) := hd
        go_wp2
        go_quiet (fail)
        go_wp2
        refine bodyPost_end (results_none rfl _ _ _) rfl ?_
        refine ⟨rfl, ?_, HK.out.drewN _⟩
        rw [← HE.out, lapseR, if_neg (by have := HD.out; omega)]
        exact ⟨_, _, _, _, _, _, _, _, _, HM1.out.kept (G' := fun _ => False) ((Kept.refl _ wr).drewN _) (fun _ _ _ => id)⟩

end Go.Proofs.YbulkdywgDoor
