/-
  Seat b6272aD: the model's state; drop, lapse, room.
-/
import Derived.Test.YbulkdywgDoorModel
namespace Go.Proofs.YbulkdywgDoor
open Go.RowKit
set_option linter.unusedVariables false
set_option maxRecDepth 100000

theorem und38 : Ybad.prog.underlying 38 = some (.slice 47) := by kernel_rfl
theorem und30 : Ybad.prog.underlying 30 = some (.slice 37) := by kernel_rfl
theorem und48 : Ybad.prog.underlying 48 = some (.slice 51) := by kernel_rfl
theorem info47 : (Ybad.prog.info? 47).map (fun i => (i.zero, i.size, i.bytes)) = some (some (.agg #[.int .i32 0, .int .u32 0, .string ⟨#[]⟩]), 3, 24) := by kernel_rfl
theorem info37 : (Ybad.prog.info? 37).map (fun i => (i.zero, i.size, i.bytes)) = some (some (.agg #[.string ⟨#[]⟩, .string ⟨#[]⟩, .int .u64 0, .int .i32 0]), 4, 48) := by kernel_rfl
theorem info51 : (Ybad.prog.info? 51).map (fun i => (i.zero, i.size, i.bytes)) = some (some (.agg #[.int .i32 0, .int .u32 0, .int .i64 0]), 3, 16) := by kernel_rfl

/-- An append as a step of a region that draws. -/
theorem step_append_row {P : Program} {α : Type} {f : α → List Value} {size : Nat} {w : World} {ops : Array Oper} {o : Oper} {A : Act} {K : Act → World → Prop} {Q : Exit → Act → World → Prop} {E : Prop} (hgd : o.guard = none) (sl x : Operand) (t : TypeId)
    (ho : o.op = .call { callee := .builtin .append, args := #[sl, x], argTypes := #[t, t] })
    (hf : ∀ x, (f x).length = size) (hone : ∀ x, ∀ u ∈ f x, u.oneCell' = true) (e : TypeId) (i : TypeInfo) (z : Value) (bytes : Nat) (ht : P.underlying t = some (.slice e)) (hi : P.info? e = some i) (hz : i.zero = some z)
    (hsize : i.size = size) (hby : i.bytes = bytes) (hzs : z.cells.size = size)
    (a : Option Addr) (n c : Nat) (xs : List α) (hs : A.eval sl = .slice a n c) (h : Row f size w a n c xs) (ad : Addr) (m c' : Nat) (ys : List α) (hx : A.eval x = .slice (some ad) m c') (hm : ys.length = m) (hnews : ∀ j u, (ys.flatMap f)[j]? = some u → w.cell? (ad.add j) = some u)
    (hsm : n + m ≤ 2000000) (hbyt : bytes ≤ 1000)
    (hK : ∀ a' c2 w', Row f size w' a' (n + m) c2 (xs ++ ys) → w.grownBy w' (blkOf a) → NewAt w a a' → K (A.put o.dst (.slice a' (n + m) c2)) w') :
    if Region.wanted o (yielded ops A.tmps) = true then Oper.wp P o A w K Q else E := by
  have hw : Region.wanted o (yielded ops A.tmps) = true := by simp [Region.wanted, hgd]
  rw [if_pos hw]
  obtain ⟨a', c2, w', hrun, r1, r2, r3, r4⟩ := run_append_row (P := P) hf hone w t o.type e i z bytes ht hi hz hsize hby hzs a n c xs h ad m c' ys hm hnews hsm hbyt
  unfold Oper.wp
  simp [execOp, ho, resolve, invoke, builtin, hs, hx, hrun, Result.andThen]
  exact hK a' c2 w' r1 r2 r3

theorem it_len (x : It) : x.cells.length = 4 := rfl
theorem pr_len (x : Pr) : x.cells.length = 3 := rfl
theorem rs_len (x : Rs) : x.cells.length = 3 := rfl
theorem it_one (x : It) : ∀ u ∈ x.cells, u.oneCell' = true := by simp [It.cells]; exact ⟨rfl, rfl, rfl, rfl⟩
theorem pr_one (x : Pr) : ∀ u ∈ x.cells, u.oneCell' = true := by simp [Pr.cells]; exact ⟨rfl, rfl, rfl⟩
theorem rs_one (x : Rs) : ∀ u ∈ x.cells, u.oneCell' = true := by simp [Rs.cells]; exact ⟨rfl, rfl, rfl⟩

structure MS where
  held : List It
  res : List Pr
  rv : List Rs
  now : Int
  told : Int
  typ : Int
  cmp : Bool
  fresh : Bool

structure MC (w : World) (G : Nat → Prop) (bs : Nat) (s : MS) (ah : Option Addr) (nh ch : Nat) (ap : Option Addr) (np cp : Nat) (ar : Option Addr) (nr cr : Nat) : Prop where
  blk : Blk w bs #[.slice ah nh ch, .slice ap np cp, .slice ar nr cr, .int .i64 s.now, .int .i64 s.told, .int .i64 s.typ, .bool s.cmp, .bool s.fresh]
  held : Row It.cells 4 w ah nh ch s.held
  res : Row Pr.cells 3 w ap np cp s.res
  rv : Row Rs.cells 3 w ar nr cr s.rv
  gs : G bs
  gh : ∀ b, blkOf ah = some b → G b ∧ b ≠ bs
  gp : ∀ b, blkOf ap = some b → G b ∧ b ≠ bs
  gr : ∀ b, blkOf ar = some b → G b ∧ b ≠ bs
  hp : ∀ b, blkOf ah = some b → blkOf ap ≠ some b
  hr : ∀ b, blkOf ah = some b → blkOf ar ≠ some b
  pr : ∀ b, blkOf ap = some b → blkOf ar ≠ some b
  fresh : ∀ b, w.heap.size ≤ b → G b

def MAt (w : World) (G : Nat → Prop) (bs : Nat) (s : MS) : Prop := ∃ ah nh ch ap np cp ar nr cr, MC w G bs s ah nh ch ap np cp ar nr cr

section
variable {w w' : World} {G : Nat → Prop} {bs : Nat} {s : MS} {ah : Option Addr} {nh ch : Nat} {ap : Option Addr} {np cp : Nat} {ar : Option Addr} {nr cr : Nat}
theorem MC.c0 (h : MC w G bs s ah nh ch ap np cp ar nr cr) : w.cell? ⟨bs, 0, none⟩ = some (.slice ah nh ch) := h.blk.cell 0
theorem MC.c1 (h : MC w G bs s ah nh ch ap np cp ar nr cr) : w.cell? ⟨bs, 1, none⟩ = some (.slice ap np cp) := h.blk.cell 1
theorem MC.c2 (h : MC w G bs s ah nh ch ap np cp ar nr cr) : w.cell? ⟨bs, 2, none⟩ = some (.slice ar nr cr) := h.blk.cell 2
theorem MC.c3 (h : MC w G bs s ah nh ch ap np cp ar nr cr) : w.cell? ⟨bs, 3, none⟩ = some (.int .i64 s.now) := h.blk.cell 3
theorem MC.c4 (h : MC w G bs s ah nh ch ap np cp ar nr cr) : w.cell? ⟨bs, 4, none⟩ = some (.int .i64 s.told) := h.blk.cell 4
theorem MC.c5 (h : MC w G bs s ah nh ch ap np cp ar nr cr) : w.cell? ⟨bs, 5, none⟩ = some (.int .i64 s.typ) := h.blk.cell 5
theorem MC.c6 (h : MC w G bs s ah nh ch ap np cp ar nr cr) : w.cell? ⟨bs, 6, none⟩ = some (.bool s.cmp) := h.blk.cell 6
theorem MC.c7 (h : MC w G bs s ah nh ch ap np cp ar nr cr) : w.cell? ⟨bs, 7, none⟩ = some (.bool s.fresh) := h.blk.cell 7

/-- Where only blocks outside G have turned. -/
theorem MC.kept {G' : Nat → Prop} (h : MC w G bs s ah nh ch ap np cp ar nr cr) (hk : Kept G' w w') (hG : ∀ b, b < w.heap.size → G b → ¬ G' b) : MC w' G bs s ah nh ch ap np cp ar nr cr :=
  ⟨h.blk.kept hk (hG _ h.blk.lt h.gs), h.held.kept hk (fun b e => hG b (h.held.lt b e) (h.gh b e).1), h.res.kept hk (fun b e => hG b (h.res.lt b e) (h.gp b e).1), h.rv.kept hk (fun b e => hG b (h.rv.lt b e) (h.gr b e).1),
    h.gs, h.gh, h.gp, h.gr, h.hp, h.hr, h.pr, fun b hb => h.fresh b (Nat.le_trans hk.size hb)⟩

theorem MC.setTold (h : MC w G bs s ah nh ch ap np cp ar nr cr) (x : Int) : MC (w.setCell ⟨bs, 4, none⟩ (.int .i64 x)) G bs { s with told := x } ah nh ch ap np cp ar nr cr :=
  ⟨h.blk.set 4 _, h.held.other (fun e => (h.gh bs e).2 rfl) _ _, h.res.other (fun e => (h.gp bs e).2 rfl) _ _, h.rv.other (fun e => (h.gr bs e).2 rfl) _ _, h.gs, h.gh, h.gp, h.gr, h.hp, h.hr, h.pr, fun b hb => h.fresh b (by simpa [World.setCell] using hb)⟩
theorem MC.setTyp (h : MC w G bs s ah nh ch ap np cp ar nr cr) (x : Int) : MC (w.setCell ⟨bs, 5, none⟩ (.int .i64 x)) G bs { s with typ := x } ah nh ch ap np cp ar nr cr :=
  ⟨h.blk.set 5 _, h.held.other (fun e => (h.gh bs e).2 rfl) _ _, h.res.other (fun e => (h.gp bs e).2 rfl) _ _, h.rv.other (fun e => (h.gr bs e).2 rfl) _ _, h.gs, h.gh, h.gp, h.gr, h.hp, h.hr, h.pr, fun b hb => h.fresh b (by simpa [World.setCell] using hb)⟩
theorem MC.setCmp (h : MC w G bs s ah nh ch ap np cp ar nr cr) (x : Bool) : MC (w.setCell ⟨bs, 6, none⟩ (.bool x)) G bs { s with cmp := x } ah nh ch ap np cp ar nr cr :=
  ⟨h.blk.set 6 _, h.held.other (fun e => (h.gh bs e).2 rfl) _ _, h.res.other (fun e => (h.gp bs e).2 rfl) _ _, h.rv.other (fun e => (h.gr bs e).2 rfl) _ _, h.gs, h.gh, h.gp, h.gr, h.hp, h.hr, h.pr, fun b hb => h.fresh b (by simpa [World.setCell] using hb)⟩
theorem MC.setFresh (h : MC w G bs s ah nh ch ap np cp ar nr cr) (x : Bool) : MC (w.setCell ⟨bs, 7, none⟩ (.bool x)) G bs { s with fresh := x } ah nh ch ap np cp ar nr cr :=
  ⟨h.blk.set 7 _, h.held.other (fun e => (h.gh bs e).2 rfl) _ _, h.res.other (fun e => (h.gp bs e).2 rfl) _ _, h.rv.other (fun e => (h.gr bs e).2 rfl) _ _, h.gs, h.gh, h.gp, h.gr, h.hp, h.hr, h.pr, fun b hb => h.fresh b (by simpa [World.setCell] using hb)⟩

/-- 's.res = append(..)': behind the append and the store of its result. -/
theorem MC.setRes (h : MC w G bs s ah nh ch ap np cp ar nr cr) {a' : Option Addr} {n' c' : Nat} {xs : List Pr} (hr : Row Pr.cells 3 w' a' n' c' xs) (hg : w.grownBy w' (blkOf ap)) (hn : NewAt w ap a') :
    MC (w'.setCell ⟨bs, 1, none⟩ (.slice a' n' c')) G bs { s with res := xs } ah nh ch a' n' c' ar nr cr := by
  have g1 : ∀ b, blkOf a' = some b → G b ∧ b ≠ bs := fun b e => by
    rcases hn b e with h1 | h1
    · exact h.gp b h1
    · exact ⟨h.fresh b h1, fun e' => by have := h.blk.lt; omega⟩
  have e1 : some bs ≠ blkOf ap := fun e => (h.gp bs e.symm).2 rfl
  refine ⟨(h.blk.grown hg e1).set 1 _, (h.held.grown hg (fun b e e' => h.hp b e e'.symm)).other (fun e => (h.gh bs e).2 rfl) _ _, hr.other (fun e => (g1 bs e).2 rfl) _ _, (h.rv.grown hg (fun b e e' => h.pr b e'.symm e)).other (fun e => (h.gr bs e).2 rfl) _ _,
    h.gs, h.gh, g1, h.gr, fun b e e' => ?_, h.hr, fun b e e' => ?_, fun b hb => h.fresh b (Nat.le_trans hg.size (by simpa [World.setCell] using hb))⟩
  · rcases hn b e' with h1 | h1
    · exact h.hp b e h1
    · have := h.held.lt b e; omega
  · rcases hn b e with h1 | h1
    · exact h.pr b h1 e'
    · have := h.rv.lt b e'; omega
/-- 's.rv = append(..)'. -/
theorem MC.setRv (h : MC w G bs s ah nh ch ap np cp ar nr cr) {a' : Option Addr} {n' c' : Nat} {xs : List Rs} (hr : Row Rs.cells 3 w' a' n' c' xs) (hg : w.grownBy w' (blkOf ar)) (hn : NewAt w ar a') :
    MC (w'.setCell ⟨bs, 2, none⟩ (.slice a' n' c')) G bs { s with rv := xs } ah nh ch ap np cp a' n' c' := by
  have g1 : ∀ b, blkOf a' = some b → G b ∧ b ≠ bs := fun b e => by
    rcases hn b e with h1 | h1
    · exact h.gr b h1
    · exact ⟨h.fresh b h1, fun e' => by have := h.blk.lt; omega⟩
  have e1 : some bs ≠ blkOf ar := fun e => (h.gr bs e.symm).2 rfl
  refine ⟨(h.blk.grown hg e1).set 2 _, (h.held.grown hg (fun b e e' => h.hr b e e'.symm)).other (fun e => (h.gh bs e).2 rfl) _ _, (h.res.grown hg (fun b e e' => h.pr b e e'.symm)).other (fun e => (h.gp bs e).2 rfl) _ _, hr.other (fun e => (g1 bs e).2 rfl) _ _,
    h.gs, h.gh, h.gp, g1, h.hp, fun b e e' => ?_, fun b e e' => ?_, fun b hb => h.fresh b (Nat.le_trans hg.size (by simpa [World.setCell] using hb))⟩
  · rcases hn b e' with h1 | h1
    · exact h.hr b e h1
    · have := h.held.lt b e; omega
  · rcases hn b e' with h1 | h1
    · exact h.pr b e h1
    · have := h.res.lt b e; omega
/-- 's.held = append(..)'. -/
theorem MC.setHeld (h : MC w G bs s ah nh ch ap np cp ar nr cr) {a' : Option Addr} {n' c' : Nat} {xs : List It} (hr : Row It.cells 4 w' a' n' c' xs) (hg : w.grownBy w' (blkOf ah)) (hn : NewAt w ah a') :
    MC (w'.setCell ⟨bs, 0, none⟩ (.slice a' n' c')) G bs { s with held := xs } a' n' c' ap np cp ar nr cr := by
  have g1 : ∀ b, blkOf a' = some b → G b ∧ b ≠ bs := fun b e => by
    rcases hn b e with h1 | h1
    · exact h.gh b h1
    · exact ⟨h.fresh b h1, fun e' => by have := h.blk.lt; omega⟩
  have e1 : some bs ≠ blkOf ah := fun e => (h.gh bs e.symm).2 rfl
  refine ⟨(h.blk.grown hg e1).set 0 _, hr.other (fun e => (g1 bs e).2 rfl) _ _, (h.res.grown hg (fun b e e' => h.hp b e'.symm e)).other (fun e => (h.gp bs e).2 rfl) _ _, (h.rv.grown hg (fun b e e' => h.hr b e'.symm e)).other (fun e => (h.gr bs e).2 rfl) _ _,
    h.gs, g1, h.gp, h.gr, fun b e e' => ?_, fun b e e' => ?_, h.pr, fun b hb => h.fresh b (Nat.le_trans hg.size (by simpa [World.setCell] using hb))⟩
  · rcases hn b e with h1 | h1
    · exact h.hp b h1 e'
    · have := h.res.lt b e'; omega
  · rcases hn b e with h1 | h1
    · exact h.hr b h1 e'
    · have := h.rv.lt b e'; omega
end

theorem w64 {n : Int} (h0 : -9223372036854775808 ≤ n) (h1 : n ≤ 9223372036854775807) : IntKind.i64.wrap n = n := by rw [IntKind.wrap_i64]; omega

theorem grown_drew {w w' : World} {row : Option Nat} (h : w.drew.grownBy w' row) : w.grownBy w' row := ⟨h.os, h.tape, h.output, h.size, h.block⟩
theorem grown_refl (w : World) (row : Option Nat) : w.grownBy w row := ⟨rfl, rfl, rfl, Nat.le_refl _, fun _ _ _ => rfl⟩

set_option maxHeartbeats 1000000 in
theorem drop_any (G : Nat → Prop) (bs : Nat) (s : MS) (j : Nat) (w : World) (h : MAt w G bs s) (hj : j < s.res.length) :
    Calls Ybad.prog 10 #[.pointer (some ⟨bs, 0, none⟩), .int .i64 j] w fun e w' => e = .returned (.tuple #[]) ∧ MAt w' G bs { s with res := s.res.take j ++ s.res.drop (j + 1) } ∧ Kept G w w' := by
  obtain ⟨ah, nh, ch, ap, np, cp, ar, nr, cr, h⟩ := h
  obtain ⟨i0, hi0, hz0, hz1, hz2⟩ := info_parts info47
  have c1 := h.c1
  have f1 := h.blk.free 1
  have hl := h.res.len
  have hle := h.res.le
  have hsm := h.res.small
  have hcm := h.res.cmax
  have jn : j < np := by omega
  have HM : Hid (MC w G bs s ah nh ch ap np cp ar nr cr) := h
  rcases h.res.row with ⟨_, h0⟩ | ⟨b, o, cs, rfl, _⟩
  · omega
  have HT : Hid (Row Pr.cells 3 w (some ⟨b, o, none⟩) j j (s.res.take j)) := h.res.take pr_len j (by omega)
  obtain ⟨A, hA, hnews⟩ : ∃ A, (if cp = j + 1 then some ⟨b, o, none⟩ else some ⟨b, o + (j + 1) * 3, none⟩ : Option Addr) = some A ∧ ∀ i u, ((s.res.drop (j + 1)).flatMap Pr.cells)[i]? = some u → w.cell? (A.add i) = some u := by
    by_cases hcj : cp = j + 1
    · refine ⟨⟨b, o, none⟩, by rw [if_pos hcj], fun i u hu => ?_⟩
      rw [List.drop_eq_nil_of_le (by omega)] at hu
      simp at hu
    · exact ⟨_, by rw [if_neg hcj], h.res.dropCells pr_len (j + 1) (by omega)⟩
  have HN : Hid (∀ i u, ((s.res.drop (j + 1)).flatMap Pr.cells)[i]? = some u → w.cell? (A.add i) = some u) := hnews
  clear h hnews
  have jc : j ≤ cp := by omega
  have jc5 : (0 : Int) ≤ (j : Int) + 1 := by omega
  have jc6 : (j : Int) + 1 ≤ (np : Int) := by omega
  have jc1 : j + 1 ≤ np := by omega
  have jc2 : np ≤ cp := by omega
  have jc4 : j + 1 ≤ cp := by omega
  have jc3 : IntKind.i64.wrap (↑j + 1) = (((j + 1 : Nat)) : Int) := by rw [w64 (by omega) (by omega)]; rfl
  go_enter Ybad.func10, Ybad.ntmps10
  go_wp2
  have hbq : some bs ≠ blkOf (some ⟨b, o, none⟩) := fun e => (HM.out.gp bs e.symm).2 rfl
  have HBQ : Hid (some bs ≠ blkOf (some ⟨b, o, none⟩)) := hbq
  clear hbq
  go_region_law (refine step_append_row (by rfl) (.tmp 11) (.tmp 18) 38 (by rfl) pr_len pr_one 47 i0 (.agg #[.int .i32 0, .int .u32 0, .string ⟨#[]⟩]) 24 und38 hi0 hz0 hz1 hz2 rfl (some ⟨b, o, none⟩) j j (s.res.take j) (by rfl) (by exact HT.out.eqv (fun _ _ => rfl)) A (np - (j + 1)) (cp - (j + 1)) (s.res.drop (j + 1)) (by rfl) (by simp; omega) (by exact HN.out) (by omega) (by omega) ?_; intro a' c2 w2 hrow hgrow hnew; have hbl := Blk.grown (show Blk w.drew bs _ from HM.out.blk) hgrow HBQ.out; have q1 : w2.cell? ⟨bs, 1, none⟩ = some (.slice (some ⟨b, o, none⟩) np cp) := hbl.cell 1; have q2 := hbl.free 1; have HR : Hid _ := hrow; have HG : Hid _ := hgrow; have HW : Hid _ := hnew; clear hrow hgrow hnew hbl)
  all_goals
    go_wp2
    refine bodyPost_end (results_none rfl _ _ _) rfl ?_
    have hg := grown_drew HG.out
    exact ⟨rfl, ⟨_, _, _, _, _, _, _, _, _, HM.out.setRes HR.out hg HW.out⟩, ((Kept.refl G w).grown hg (fun k e => (HM.out.gp k e).1)).setCell HM.out.gs _⟩

end Go.Proofs.YbulkdywgDoor
