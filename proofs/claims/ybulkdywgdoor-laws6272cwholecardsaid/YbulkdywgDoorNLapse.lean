/-
  Seat b6272aD: the node's lapse.
-/
import Derived.Test.YbulkdywgDoorKeep
namespace Go.Proofs.YbulkdywgDoor
open Go.RowKit
set_option linter.unusedVariables false
set_option maxRecDepth 100000

/-- 'delete(m, op)' as a step of a region that draws. -/
theorem step_delete {w : World} {ops : Array Oper} {o : Oper} {A : Act} {K : Act → World → Prop} {Q : Exit → Act → World → Prop} {E : Prop} (hgd : o.guard = none) (m x : Operand)
    (ho : o.op = .call { callee := .builtin .delete, args := #[m, x], argTypes := #[39, 43] }) (b n : Nat) (res : List Pr) (p q : Int) (hm : A.eval m = .map (some b)) (hx : A.eval x = opV p q) (h : RMap w b n res) (h4 : In4 p q)
    (hK : ∀ w', RMap w' b n (delR res p q) → w.grownBy w' (some b) → K (A.put o.dst (.tuple #[])) w') :
    if Region.wanted o (yielded ops A.tmps) = true then Oper.wp Ybad.prog o A w K Q else E := by
  have hw : Region.wanted o (yielded ops A.tmps) = true := by simp [Region.wanted, hgd]
  rw [if_pos hw]
  obtain ⟨w', hrun, r1, r2, _⟩ := h.del h4 o.type
  unfold Oper.wp
  simp [execOp, ho, resolve, invoke, builtin, hm, hx, hrun, Result.andThen]
  exact hK w' r1 r2

theorem NC.popRv {w : World} {G : Nat → Prop} {nb cb tb mb : Nat} {keeps bits : Int} {s : MS} {cs : Array Value} {nm : Nat} {ah : Option Addr} {nh ch : Nat} {b o nr cr : Nat} {r : Rs} {rs : List Rs} (h : NC w G nb cb tb mb keeps bits s cs nm ah nh ch (some ⟨b, o, none⟩) (nr + 1) cr) (hs : s.rv = r :: rs) :
    ∃ A, (if cr = 1 then some ⟨b, o, none⟩ else some ⟨b, o + 3, none⟩ : Option Addr) = some A ∧ NC (w.setCell ⟨nb, 87, none⟩ (.slice (some A) nr (cr - 1))) G nb cb tb mb keeps bits { s with rv := rs } (cs.setIfInBounds 87 (.slice (some A) nr (cr - 1))) nm ah nh ch (some A) nr (cr - 1) := by
  have hrow := h.rv
  rw [hs] at hrow
  have hle := hrow.le
  have ht := hrow.tail rs_len
  by_cases hc : cr = 1
  · refine ⟨⟨b, o, none⟩, by rw [if_pos hc], h.setRv (w' := w) ?_ (grown_refl _ _) (fun _ e => .inl e)⟩
    have h0 : nr = 0 := by omega
    subst hc
    subst h0
    refine ⟨ht.len, ht.small, ht.le, ht.cmax, ht.pos, ht.flat, ?_⟩
    rcases hrow.row with ⟨h0, _⟩ | ⟨b', o', cs, h1, h2, h3, h4⟩
    · cases h0
    · cases h1
      have hn : rs = [] := List.eq_nil_of_length_eq_zero ht.len
      subst hn
      exact .inr ⟨b, o, cs, rfl, h2, by omega, by simp⟩
  · exact ⟨⟨b, o + 3, none⟩, by rw [if_neg hc], h.setRv (w' := w) ht (grown_refl _ _) (fun _ e => .inl e)⟩

set_option maxHeartbeats 1000000 in
theorem nlapse_any (G : Nat → Prop) (nb cb tb mb : Nat) (keeps bits : Int) (nm : Nat) (s : MS) (w : World) (h : NAt w G nb cb tb mb keeps bits nm s) (h4 : ∀ r ∈ s.rv, In4 r.o r.q) :
    Calls Ybad.prog 24 #[.pointer (some ⟨nb, 0, none⟩)] w fun e w' => e = .returned (.tuple #[]) ∧ NAt w' G nb cb tb mb keeps bits nm { s with rv := (lapseR s.now s.rv s.res).1, res := (lapseR s.now s.rv s.res).2 } ∧ Kept G w w' := by
  have H0 : Hid (NAt w G nb cb tb mb keeps bits nm s) := h
  have HF : Hid (∀ r ∈ s.rv, In4 r.o r.q) := h4
  obtain ⟨cs, ah, nh, ch, ar, nr, cr, h⟩ := h
  have hmn := meth_now
  have c7 := h.d7
  have HT0 : Hid (w.cell? ⟨tb, 0, none⟩ = some (.int .i64 s.now)) := h.t0
  clear h h4
  go_enter Ybad.func24, Ybad.ntmps24
  go_wp2_with fail
  refine (now_any tb w s.now HT0.out).mono ?_
  rintro e w1 ⟨rfl, rfl⟩
  clear c7 hmn
  go_wp2
  go_loopw [8] (fun _ wr => ∃ rs res, Hid (lapseR s.now rs res = lapseR s.now s.rv s.res) ∧ Hid (NAt wr G nb cb tb mb keeps bits nm { s with rv := rs, res := res }) ∧ Hid (∀ r ∈ rs, In4 r.o r.q) ∧ Hid (Kept G w1 wr)) (fun _ wr => sliceLen wr ⟨nb, 87, none⟩)
  case atStart => exact ⟨s.rv, s.res, rfl, H0.out, HF.out, Kept.refl G w1⟩
  case round =>
    obtain ⟨rs, res, HE, HM, HFR, HK⟩ := hrel
    obtain ⟨cs, ah, nh, ch, ar, nr, cr, hm⟩ := HM.out
    have HM1 : Hid (NC wr G nb cb tb mb keeps bits { s with rv := rs, res := res } cs nm ah nh ch ar nr cr) := hm
    have c87 := hm.d87
    have hlen := hm.rv.len
    cases rs with
    | nil =>
      have hnr : nr = 0 := by simpa using hlen.symm
      subst hnr
      clear hm hlen
      go_wp2
      refine bodyPost_end (results_none rfl _ _ _) rfl ?_
      refine ⟨rfl, ?_, HK.out⟩
      rw [← HE.out]
      exact HM.out
    | cons r rs =>
      obtain ⟨n0, rfl⟩ : ∃ n0, nr = n0 + 1 := ⟨nr - 1, by simp at hlen; omega⟩
      have hress := hm.rv.ress
      rcases hress.2.2 with h0 | ⟨b, o, rfl, hcells⟩
      · omega
      obtain ⟨q0, q1, q2⟩ := hcells 0 r rfl
      simp only [Nat.zero_mul, Nat.add_zero] at q0 q1 q2
      have c86 := hm.d86
      clear hcells hress hm hlen
      by_cases hd : r.t ≤ s.now
      · have hd1 : decide (r.t ≤ s.now) = true := decide_eq_true hd
        have HD : Hid (r.t ≤ s.now) := hd
        have HI4 : Hid (In4 r.o r.q) := HFR.out r (by simp)
        have HC : Hid (wr.cell? ⟨nb, 87, none⟩ = some (.slice (some ⟨b, o, none⟩) (n0 + 1) cr)) := c87
        go_wp2
        go_region_law (refine step_delete (by rfl) (.tmp 28) (.tmp 35) (by rfl) mb nm res r.o r.q (by rfl) (by rfl) (by exact HM1.out.map.eqv rfl) HI4.out ?_; intro w2 hmap hgrow; have hg2 := grown_drew hgrow; have hn2 := HM1.out.setMap hmap hg2; have HM2 : Hid _ := hn2; have HG2 : Hid _ := hg2; have z1 := hn2.d87; have z2 := hn2.blk.free 87; have HPOP := hn2.popRv rfl; clear hmap hgrow hg2 hn2)
        all_goals
          obtain ⟨A, hA, hpop⟩ := HPOP
          have HP : Hid _ := hpop
          clear hpop c86 c87 q0 q1 q2
          go_wp2
          go_roundw
          case rel =>
            refine ⟨rs, delR res r.o r.q, ?_, ⟨_, _, _, _, _, _, _, HP.out⟩, fun r' hr' => HFR.out r' (by simp [hr']), ?_⟩
            · have he := HE.out
              rw [lapseR, if_pos HD.out] at he
              exact he
            · exact (HK.out.grown HG2.out (fun k e => by cases e; exact HM1.out.g.2.2.2)).setCell (p := ⟨nb, 87, none⟩) HM1.out.g.1 _
          case measure =>
            have e1 : sliceLen wr ⟨nb, 87, none⟩ = n0 + 1 := sliceLen_of HC.out
            rw [e1]
            exact Nat.lt_of_le_of_lt (Nat.le_of_eq (sliceLen_of HP.out.d87)) (by omega)
      · have hd1 : decide (r.t ≤ s.now) = false := decide_eq_false hd
        have HD : Hid (¬ r.t ≤ s.now) := hd
        go_wp2
        refine bodyPost_end (results_none rfl _ _ _) rfl ?_
        refine ⟨rfl, ?_, HK.out⟩
        rw [← HE.out, lapseR, if_neg (by have := HD.out; omega)]
        exact HM.out

end Go.Proofs.YbulkdywgDoor
