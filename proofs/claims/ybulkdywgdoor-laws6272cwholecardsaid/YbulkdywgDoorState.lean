/-
  Seat b6272aD: the node's state, and what a store does to it; the conduct's Keep.
-/
import Derived.Test.YbulkdywgDoorNode
namespace Go.Proofs.YbulkdywgDoor
open Go.RowKit
set_option linter.unusedVariables false
set_option maxRecDepth 100000

/-- The cells of the node that the road reads. -/
structure NCells (cs : Array Value) (tb cb mb : Nat) (bits : Int) (s : MS) (ar : Option Addr) (nr cr : Nat) : Prop where
  n3 : cs[3]? = some (.int .i64 bits)
  n4 : cs[4]? = some (.slice none 0 0)
  n7 : cs[7]? = some (.iface 60 (.pointer (some ⟨tb, 0, none⟩)))
  n61 : cs[61]? = some (.iface 63 (.pointer (some ⟨cb, 0, none⟩)))
  n82 : cs[82]? = some (.int .i64 s.told)
  n83 : cs[83]? = some (.int .i64 s.typ)
  n84 : cs[84]? = some (.bool s.cmp)
  n85 : cs[85]? = some (.bool s.fresh)
  n86 : cs[86]? = some (.map (some mb))
  n87 : cs[87]? = some (.slice ar nr cr)

structure NC (w : World) (G : Nat → Prop) (nb cb tb mb : Nat) (keeps bits : Int) (s : MS) (cs : Array Value) (nm : Nat) (ah : Option Addr) (nh ch : Nat) (ar : Option Addr) (nr cr : Nat) : Prop where
  blk : Blk w nb cs
  cells : NCells cs tb cb mb bits s ar nr cr
  cond : Blk w cb #[.slice ah nh ch, .int .i64 keeps]
  net : Blk w tb #[.int .i64 s.now, .int .i64 0]
  map : RMap w mb nm s.res
  held : Row It.cells 4 w ah nh ch s.held
  rv : Row Rs.cells 3 w ar nr cr s.rv
  g : G nb ∧ G cb ∧ G tb ∧ G mb
  ne : nb ≠ cb ∧ nb ≠ tb ∧ nb ≠ mb ∧ cb ≠ tb ∧ cb ≠ mb ∧ tb ≠ mb
  gh : ∀ b, blkOf ah = some b → G b ∧ b ≠ nb ∧ b ≠ cb ∧ b ≠ tb ∧ b ≠ mb
  gr : ∀ b, blkOf ar = some b → G b ∧ b ≠ nb ∧ b ≠ cb ∧ b ≠ tb ∧ b ≠ mb
  hr : ∀ b, blkOf ah = some b → blkOf ar ≠ some b
  fresh : ∀ b, w.heap.size ≤ b → G b

def NAt (w : World) (G : Nat → Prop) (nb cb tb mb : Nat) (keeps bits : Int) (nm : Nat) (s : MS) : Prop := ∃ cs ah nh ch ar nr cr, NC w G nb cb tb mb keeps bits s cs nm ah nh ch ar nr cr

section
variable {w w' : World} {G : Nat → Prop} {nb cb tb mb : Nat} {keeps bits : Int} {s : MS} {cs : Array Value} {nm : Nat} {ah : Option Addr} {nh ch : Nat} {ar : Option Addr} {nr cr : Nat}

theorem NCells.set82 (h : NCells cs tb cb mb bits s ar nr cr) (x : Int) : NCells (cs.setIfInBounds 82 (.int .i64 x)) tb cb mb bits { s with told := x } ar nr cr := by
  have hl := (Array.getElem?_eq_some_iff.1 h.n87).1
  exact ⟨by rw [Array.getElem?_setIfInBounds_ne (by omega)]; exact h.n3, by rw [Array.getElem?_setIfInBounds_ne (by omega)]; exact h.n4, by rw [Array.getElem?_setIfInBounds_ne (by omega)]; exact h.n7, by rw [Array.getElem?_setIfInBounds_ne (by omega)]; exact h.n61,
    by rw [Array.getElem?_setIfInBounds_self_of_lt (by omega)], by rw [Array.getElem?_setIfInBounds_ne (by omega)]; exact h.n83, by rw [Array.getElem?_setIfInBounds_ne (by omega)]; exact h.n84, by rw [Array.getElem?_setIfInBounds_ne (by omega)]; exact h.n85,
    by rw [Array.getElem?_setIfInBounds_ne (by omega)]; exact h.n86, by rw [Array.getElem?_setIfInBounds_ne (by omega)]; exact h.n87⟩
theorem NCells.set83 (h : NCells cs tb cb mb bits s ar nr cr) (x : Int) : NCells (cs.setIfInBounds 83 (.int .i64 x)) tb cb mb bits { s with typ := x } ar nr cr := by
  have hl := (Array.getElem?_eq_some_iff.1 h.n87).1
  exact ⟨by rw [Array.getElem?_setIfInBounds_ne (by omega)]; exact h.n3, by rw [Array.getElem?_setIfInBounds_ne (by omega)]; exact h.n4, by rw [Array.getElem?_setIfInBounds_ne (by omega)]; exact h.n7, by rw [Array.getElem?_setIfInBounds_ne (by omega)]; exact h.n61,
    by rw [Array.getElem?_setIfInBounds_ne (by omega)]; exact h.n82, by rw [Array.getElem?_setIfInBounds_self_of_lt (by omega)], by rw [Array.getElem?_setIfInBounds_ne (by omega)]; exact h.n84, by rw [Array.getElem?_setIfInBounds_ne (by omega)]; exact h.n85,
    by rw [Array.getElem?_setIfInBounds_ne (by omega)]; exact h.n86, by rw [Array.getElem?_setIfInBounds_ne (by omega)]; exact h.n87⟩
theorem NCells.set84 (h : NCells cs tb cb mb bits s ar nr cr) (x : Bool) : NCells (cs.setIfInBounds 84 (.bool x)) tb cb mb bits { s with cmp := x } ar nr cr := by
  have hl := (Array.getElem?_eq_some_iff.1 h.n87).1
  exact ⟨by rw [Array.getElem?_setIfInBounds_ne (by omega)]; exact h.n3, by rw [Array.getElem?_setIfInBounds_ne (by omega)]; exact h.n4, by rw [Array.getElem?_setIfInBounds_ne (by omega)]; exact h.n7, by rw [Array.getElem?_setIfInBounds_ne (by omega)]; exact h.n61,
    by rw [Array.getElem?_setIfInBounds_ne (by omega)]; exact h.n82, by rw [Array.getElem?_setIfInBounds_ne (by omega)]; exact h.n83, by rw [Array.getElem?_setIfInBounds_self_of_lt (by omega)], by rw [Array.getElem?_setIfInBounds_ne (by omega)]; exact h.n85,
    by rw [Array.getElem?_setIfInBounds_ne (by omega)]; exact h.n86, by rw [Array.getElem?_setIfInBounds_ne (by omega)]; exact h.n87⟩
theorem NCells.set85 (h : NCells cs tb cb mb bits s ar nr cr) (x : Bool) : NCells (cs.setIfInBounds 85 (.bool x)) tb cb mb bits { s with fresh := x } ar nr cr := by
  have hl := (Array.getElem?_eq_some_iff.1 h.n87).1
  exact ⟨by rw [Array.getElem?_setIfInBounds_ne (by omega)]; exact h.n3, by rw [Array.getElem?_setIfInBounds_ne (by omega)]; exact h.n4, by rw [Array.getElem?_setIfInBounds_ne (by omega)]; exact h.n7, by rw [Array.getElem?_setIfInBounds_ne (by omega)]; exact h.n61,
    by rw [Array.getElem?_setIfInBounds_ne (by omega)]; exact h.n82, by rw [Array.getElem?_setIfInBounds_ne (by omega)]; exact h.n83, by rw [Array.getElem?_setIfInBounds_ne (by omega)]; exact h.n84, by rw [Array.getElem?_setIfInBounds_self_of_lt (by omega)],
    by rw [Array.getElem?_setIfInBounds_ne (by omega)]; exact h.n86, by rw [Array.getElem?_setIfInBounds_ne (by omega)]; exact h.n87⟩
theorem NCells.set87 (h : NCells cs tb cb mb bits s ar nr cr) (a' : Option Addr) (n' c' : Nat) (xs : List Rs) : NCells (cs.setIfInBounds 87 (.slice a' n' c')) tb cb mb bits { s with rv := xs } a' n' c' := by
  have hl := (Array.getElem?_eq_some_iff.1 h.n87).1
  exact ⟨by rw [Array.getElem?_setIfInBounds_ne (by omega)]; exact h.n3, by rw [Array.getElem?_setIfInBounds_ne (by omega)]; exact h.n4, by rw [Array.getElem?_setIfInBounds_ne (by omega)]; exact h.n7, by rw [Array.getElem?_setIfInBounds_ne (by omega)]; exact h.n61,
    by rw [Array.getElem?_setIfInBounds_ne (by omega)]; exact h.n82, by rw [Array.getElem?_setIfInBounds_ne (by omega)]; exact h.n83, by rw [Array.getElem?_setIfInBounds_ne (by omega)]; exact h.n84, by rw [Array.getElem?_setIfInBounds_ne (by omega)]; exact h.n85,
    by rw [Array.getElem?_setIfInBounds_ne (by omega)]; exact h.n86, by rw [Array.getElem?_setIfInBounds_self_of_lt (by omega)]⟩
theorem NCells.res (h : NCells cs tb cb mb bits s ar nr cr) (xs : List Pr) : NCells cs tb cb mb bits { s with res := xs } ar nr cr := ⟨h.n3, h.n4, h.n7, h.n61, h.n82, h.n83, h.n84, h.n85, h.n86, h.n87⟩
theorem NCells.heldS (h : NCells cs tb cb mb bits s ar nr cr) (xs : List It) : NCells cs tb cb mb bits { s with held := xs } ar nr cr := ⟨h.n3, h.n4, h.n7, h.n61, h.n82, h.n83, h.n84, h.n85, h.n86, h.n87⟩

theorem NC.kept {G' : Nat → Prop} (h : NC w G nb cb tb mb keeps bits s cs nm ah nh ch ar nr cr) (hk : Kept G' w w') (hG : ∀ b, b < w.heap.size → G b → ¬ G' b) : NC w' G nb cb tb mb keeps bits s cs nm ah nh ch ar nr cr :=
  ⟨h.blk.kept hk (hG _ h.blk.lt h.g.1), h.cells, h.cond.kept hk (hG _ h.cond.lt h.g.2.1), h.net.kept hk (hG _ h.net.lt h.g.2.2.1), h.map.kept hk (hG _ h.map.lt h.g.2.2.2), h.held.kept hk (fun b e => hG b (h.held.lt b e) (h.gh b e).1), h.rv.kept hk (fun b e => hG b (h.rv.lt b e) (h.gr b e).1),
    h.g, h.ne, h.gh, h.gr, h.hr, fun b hb => h.fresh b (Nat.le_trans hk.size hb)⟩
theorem NC.quiet (h : NC w G nb cb tb mb keeps bits s cs nm ah nh ch ar nr cr) (hk : Kept (fun _ => False) w w') : NC w' G nb cb tb mb keeps bits s cs nm ah nh ch ar nr cr := h.kept hk (fun _ _ _ => id)

/-- A store into the node's own block. -/
theorem NC.setN (h : NC w G nb cb tb mb keeps bits s cs nm ah nh ch ar nr cr) (k : Nat) (v : Value) {s' : MS} (hc : NCells (cs.setIfInBounds k v) tb cb mb bits s' ar nr cr) (e1 : s'.held = s.held) (e2 : s'.res = s.res) (e3 : s'.rv = s.rv) (e4 : s'.now = s.now) :
    NC (w.setCell ⟨nb, k, none⟩ v) G nb cb tb mb keeps bits s' (cs.setIfInBounds k v) nm ah nh ch ar nr cr :=
  ⟨h.blk.set k v, hc, h.cond.other (Ne.symm h.ne.1) _ _, by rw [e4]; exact h.net.other (Ne.symm h.ne.2.1) _ _, by rw [e2]; exact h.map.other (Ne.symm h.ne.2.2.1) _ _, by rw [e1]; exact h.held.other (fun e => (h.gh nb e).2.1 rfl) _ _, by rw [e3]; exact h.rv.other (fun e => (h.gr nb e).2.1 rfl) _ _,
    h.g, h.ne, h.gh, h.gr, h.hr, fun b hb => h.fresh b (by simpa [World.setCell] using hb)⟩

/-- 'n.reservations = ..'. -/
theorem NC.setRv (h : NC w G nb cb tb mb keeps bits s cs nm ah nh ch ar nr cr) {a' : Option Addr} {n' c' : Nat} {xs : List Rs} (hr : Row Rs.cells 3 w' a' n' c' xs) (hg : w.grownBy w' (blkOf ar)) (hn : NewAt w ar a') :
    NC (w'.setCell ⟨nb, 87, none⟩ (.slice a' n' c')) G nb cb tb mb keeps bits { s with rv := xs } (cs.setIfInBounds 87 (.slice a' n' c')) nm ah nh ch a' n' c' := by
  have g1 : ∀ b, blkOf a' = some b → G b ∧ b ≠ nb ∧ b ≠ cb ∧ b ≠ tb ∧ b ≠ mb := fun b e => by
    rcases hn b e with h1 | h1
    · exact h.gr b h1
    · have := h.blk.lt; have := h.cond.lt; have := h.net.lt; have := h.map.lt
      exact ⟨h.fresh b h1, by omega, by omega, by omega, by omega⟩
  have q : ∀ x, (x = nb ∨ x = cb ∨ x = tb ∨ x = mb) → some x ≠ blkOf ar := fun x hx e => by
    have := h.gr x e.symm
    omega
  refine ⟨(h.blk.grown hg (q nb (by simp))).set 87 _, h.cells.set87 _ _ _ _, (h.cond.grown hg (q cb (by simp))).other (Ne.symm h.ne.1) _ _, (h.net.grown hg (q tb (by simp))).other (Ne.symm h.ne.2.1) _ _, (h.map.grown hg (q mb (by simp))).other (Ne.symm h.ne.2.2.1) _ _,
    (h.held.grown hg (fun b e e' => h.hr b e e'.symm)).other (fun e => (h.gh nb e).2.1 rfl) _ _, hr.other (fun e => (g1 nb e).2.1 rfl) _ _, h.g, h.ne, h.gh, g1, fun b e e' => ?_, fun b hb => h.fresh b (Nat.le_trans hg.size (by simpa [World.setCell] using hb))⟩
  rcases hn b e' with h1 | h1
  · exact h.hr b e h1
  · have := h.held.lt b e; omega

/-- 'c.items = append(..)'. -/
theorem NC.setHeld (h : NC w G nb cb tb mb keeps bits s cs nm ah nh ch ar nr cr) {a' : Option Addr} {n' c' : Nat} {xs : List It} (hr : Row It.cells 4 w' a' n' c' xs) (hg : w.grownBy w' (blkOf ah)) (hn : NewAt w ah a') :
    NC (w'.setCell ⟨cb, 0, none⟩ (.slice a' n' c')) G nb cb tb mb keeps bits { s with held := xs } cs nm a' n' c' ar nr cr := by
  have g1 : ∀ b, blkOf a' = some b → G b ∧ b ≠ nb ∧ b ≠ cb ∧ b ≠ tb ∧ b ≠ mb := fun b e => by
    rcases hn b e with h1 | h1
    · exact h.gh b h1
    · have := h.blk.lt; have := h.cond.lt; have := h.net.lt; have := h.map.lt
      exact ⟨h.fresh b h1, by omega, by omega, by omega, by omega⟩
  have q : ∀ x, (x = nb ∨ x = cb ∨ x = tb ∨ x = mb) → some x ≠ blkOf ah := fun x hx e => by
    have := h.gh x e.symm
    omega
  refine ⟨(h.blk.grown hg (q nb (by simp))).other h.ne.1 _ _, h.cells.heldS _, (h.cond.grown hg (q cb (by simp))).set 0 _, (h.net.grown hg (q tb (by simp))).other (Ne.symm h.ne.2.2.2.1) _ _, (h.map.grown hg (q mb (by simp))).other (Ne.symm h.ne.2.2.2.2.1) _ _,
    hr.other (fun e => (g1 cb e).2.2.1 rfl) _ _, (h.rv.grown hg (fun b e e' => h.hr b e'.symm e)).other (fun e => (h.gr cb e).2.2.1 rfl) _ _, h.g, h.ne, g1, h.gr, fun b e e' => ?_, fun b hb => h.fresh b (Nat.le_trans hg.size (by simpa [World.setCell] using hb))⟩
  rcases hn b e with h1 | h1
  · exact h.hr b h1 e'
  · have := h.rv.lt b e'; omega

/-- The items' own row rewritten in its place. -/
theorem NC.setItems (h : NC w G nb cb tb mb keeps bits s cs nm ah nh ch ar nr cr) {xs : List It} (hr : Row It.cells 4 w' ah nh ch xs) (hg : w.grownBy w' (blkOf ah)) :
    NC w' G nb cb tb mb keeps bits { s with held := xs } cs nm ah nh ch ar nr cr := by
  have q : ∀ x, (x = nb ∨ x = cb ∨ x = tb ∨ x = mb) → some x ≠ blkOf ah := fun x hx e => by
    have := h.gh x e.symm
    omega
  exact ⟨h.blk.grown hg (q nb (by simp)), h.cells.heldS _, h.cond.grown hg (q cb (by simp)), h.net.grown hg (q tb (by simp)), h.map.grown hg (q mb (by simp)), hr, h.rv.grown hg (fun b e e' => h.hr b e'.symm e), h.g, h.ne, h.gh, h.gr, h.hr, fun b hb => h.fresh b (Nat.le_trans hg.size hb)⟩

theorem NC.setKeeps (h : NC w G nb cb tb mb keeps bits s cs nm ah nh ch ar nr cr) (x : Int) : NC (w.setCell ⟨cb, 1, none⟩ (.int .i64 x)) G nb cb tb mb x bits s cs nm ah nh ch ar nr cr :=
  ⟨h.blk.other h.ne.1 _ _, h.cells, h.cond.set 1 _, h.net.other (Ne.symm h.ne.2.2.2.1) _ _, h.map.other (Ne.symm h.ne.2.2.2.2.1) _ _, h.held.other (fun e => (h.gh cb e).2.2.1 rfl) _ _, h.rv.other (fun e => (h.gr cb e).2.2.1 rfl) _ _, h.g, h.ne, h.gh, h.gr, h.hr, fun b hb => h.fresh b (by simpa [World.setCell] using hb)⟩

/-- The map rewritten. -/
theorem NC.setMap (h : NC w G nb cb tb mb keeps bits s cs nm ah nh ch ar nr cr) {nm' : Nat} {xs : List Pr} (hm : RMap w' mb nm' xs) (hg : w.grownBy w' (some mb)) :
    NC w' G nb cb tb mb keeps bits { s with res := xs } cs nm' ah nh ch ar nr cr := by
  have q : ∀ x, x ≠ mb → some x ≠ some mb := fun x hx e => hx (Option.some.inj e)
  exact ⟨h.blk.grown hg (q _ h.ne.2.2.1), h.cells.res _, h.cond.grown hg (q _ h.ne.2.2.2.2.1), h.net.grown hg (q _ h.ne.2.2.2.2.2), hm, h.held.grown hg (fun b e => q _ (h.gh b e).2.2.2.2), h.rv.grown hg (fun b e => q _ (h.gr b e).2.2.2.2), h.g, h.ne, h.gh, h.gr, h.hr, fun b hb => h.fresh b (Nat.le_trans hg.size hb)⟩

theorem NC.d3 (h : NC w G nb cb tb mb keeps bits s cs nm ah nh ch ar nr cr) : w.cell? ⟨nb, 3, none⟩ = some (.int .i64 bits) := (h.blk.cell 3).trans h.cells.n3
theorem NC.d4 (h : NC w G nb cb tb mb keeps bits s cs nm ah nh ch ar nr cr) : w.cell? ⟨nb, 4, none⟩ = some (.slice none 0 0) := (h.blk.cell 4).trans h.cells.n4
theorem NC.d7 (h : NC w G nb cb tb mb keeps bits s cs nm ah nh ch ar nr cr) : w.cell? ⟨nb, 7, none⟩ = some (.iface 60 (.pointer (some ⟨tb, 0, none⟩))) := (h.blk.cell 7).trans h.cells.n7
theorem NC.d61 (h : NC w G nb cb tb mb keeps bits s cs nm ah nh ch ar nr cr) : w.cell? ⟨nb, 61, none⟩ = some (.iface 63 (.pointer (some ⟨cb, 0, none⟩))) := (h.blk.cell 61).trans h.cells.n61
theorem NC.d82 (h : NC w G nb cb tb mb keeps bits s cs nm ah nh ch ar nr cr) : w.cell? ⟨nb, 82, none⟩ = some (.int .i64 s.told) := (h.blk.cell 82).trans h.cells.n82
theorem NC.d83 (h : NC w G nb cb tb mb keeps bits s cs nm ah nh ch ar nr cr) : w.cell? ⟨nb, 83, none⟩ = some (.int .i64 s.typ) := (h.blk.cell 83).trans h.cells.n83
theorem NC.d84 (h : NC w G nb cb tb mb keeps bits s cs nm ah nh ch ar nr cr) : w.cell? ⟨nb, 84, none⟩ = some (.bool s.cmp) := (h.blk.cell 84).trans h.cells.n84
theorem NC.d85 (h : NC w G nb cb tb mb keeps bits s cs nm ah nh ch ar nr cr) : w.cell? ⟨nb, 85, none⟩ = some (.bool s.fresh) := (h.blk.cell 85).trans h.cells.n85
theorem NC.d86 (h : NC w G nb cb tb mb keeps bits s cs nm ah nh ch ar nr cr) : w.cell? ⟨nb, 86, none⟩ = some (.map (some mb)) := (h.blk.cell 86).trans h.cells.n86
theorem NC.d87 (h : NC w G nb cb tb mb keeps bits s cs nm ah nh ch ar nr cr) : w.cell? ⟨nb, 87, none⟩ = some (.slice ar nr cr) := (h.blk.cell 87).trans h.cells.n87
theorem NC.q0 (h : NC w G nb cb tb mb keeps bits s cs nm ah nh ch ar nr cr) : w.cell? ⟨cb, 0, none⟩ = some (.slice ah nh ch) := h.cond.cell 0
theorem NC.q1 (h : NC w G nb cb tb mb keeps bits s cs nm ah nh ch ar nr cr) : w.cell? ⟨cb, 1, none⟩ = some (.int .i64 keeps) := h.cond.cell 1
theorem NC.t0 (h : NC w G nb cb tb mb keeps bits s cs nm ah nh ch ar nr cr) : w.cell? ⟨tb, 0, none⟩ = some (.int .i64 s.now) := h.net.cell 0
end

/-- One element of a row of items rewritten in its place. -/
theorem Row.setItem {w : World} {b o n c : Nat} {its : List It} (h : Row It.cells 4 w (some ⟨b, o, none⟩) n c its) (j : Nat) (hj : j < n) (x : It) :
    Row It.cells 4 ((((w.setCell ⟨b, o + j * 4, none⟩ (.string x.k)).setCell ⟨b, o + j * 4 + 1, none⟩ (.string x.v)).setCell ⟨b, o + j * 4 + 2, none⟩ (.int .u64 x.c)).setCell ⟨b, o + j * 4 + 3, none⟩ (.int .i32 x.r)) (some ⟨b, o, none⟩) n c (its.set j x) := by
  have hl := h.len
  refine ⟨by simpa using hl, h.small, h.le, h.cmax, h.pos, by rw [flatMap_len it_len]; simp [hl], ?_⟩
  rcases h.row with ⟨h0, _⟩ | ⟨b', o', cs, h1, h2, h3, h4⟩
  · cases h0
  · cases h1
    have hfit : o + j * 4 + 4 ≤ cs.size := by have := h.le; omega
    refine .inr ⟨b, o, _, rfl, (((h2.set _ _).set _ _).set _ _).set _ _, by simpa using h3, fun i u hu => ?_⟩
    have hi : i < n * 4 := by have := (List.getElem?_eq_some_iff.1 hu).1; rw [flatMap_len it_len] at this; simpa [hl] using this
    obtain ⟨k, t, rfl, ht⟩ : ∃ k t, i = k * 4 + t ∧ t < 4 := ⟨i / 4, i % 4, by omega, by omega⟩
    rw [flatMap_get it_len t ht] at hu
    by_cases hk : k = j
    · subst hk
      rw [List.getElem?_set_self (by omega)] at hu
      simp only [Option.bind_some] at hu
      have h5 : t = 0 ∨ t = 1 ∨ t = 2 ∨ t = 3 := by omega
      rcases h5 with rfl | rfl | rfl | rfl
      · simp [It.cells] at hu
        subst hu
        rw [Array.getElem?_setIfInBounds_ne (by omega), Array.getElem?_setIfInBounds_ne (by omega), Array.getElem?_setIfInBounds_ne (by omega), show o + (k * 4 + 0) = o + k * 4 by omega, Array.getElem?_setIfInBounds_self_of_lt (by omega)]
      · simp [It.cells] at hu
        subst hu
        rw [Array.getElem?_setIfInBounds_ne (by omega), Array.getElem?_setIfInBounds_ne (by omega), show o + (k * 4 + 1) = o + k * 4 + 1 by omega, Array.getElem?_setIfInBounds_self_of_lt (by simp; omega)]
      · simp [It.cells] at hu
        subst hu
        rw [Array.getElem?_setIfInBounds_ne (by omega), show o + (k * 4 + 2) = o + k * 4 + 2 by omega, Array.getElem?_setIfInBounds_self_of_lt (by simp; omega)]
      · simp [It.cells] at hu
        subst hu
        rw [show o + (k * 4 + 3) = o + k * 4 + 3 by omega, Array.getElem?_setIfInBounds_self_of_lt (by simp; omega)]
    · rw [List.getElem?_set_ne (Ne.symm hk)] at hu
      rw [Array.getElem?_setIfInBounds_ne (by omega), Array.getElem?_setIfInBounds_ne (by omega), Array.getElem?_setIfInBounds_ne (by omega), Array.getElem?_setIfInBounds_ne (by omega)]
      exact h4 _ _ (by rw [flatMap_get it_len t ht]; exact hu)

theorem grown_set {w w' : World} {b : Nat} (h : w.grownBy w' (some b)) (k : Nat) (v : Value) : w.grownBy (w'.setCell ⟨b, k, none⟩ v) (some b) :=
  ⟨h.os, h.tape, h.output, by simpa [World.setCell] using h.size, fun i hi hne => (heap_setCell_other w' _ i v (fun e => hne (by rw [e]))).trans (h.block i hi hne)⟩

end Go.Proofs.YbulkdywgDoor
