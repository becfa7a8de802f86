/-
  Seat b6272aD: a box that stays.
-/
import Derived.Test.YbulkdywgDoorState
namespace Go.Proofs.YbulkdywgDoor
open Go.RowKit
set_option linter.unusedVariables false

theorem NC.mapMono {w : World} {G : Nat → Prop} {nb cb tb mb : Nat} {keeps bits : Int} {s : MS} {cs : Array Value} {nm : Nat} {ah : Option Addr} {nh ch : Nat} {ar : Option Addr} {nr cr : Nat} (h : NC w G nb cb tb mb keeps bits s cs nm ah nh ch ar nr cr) {nm' : Nat} (hn : nm ≤ nm') : NC w G nb cb tb mb keeps bits s cs nm' ah nh ch ar nr cr :=
  ⟨h.blk, h.cells, h.cond, h.net, h.map.mono hn, h.held, h.rv, h.g, h.ne, h.gh, h.gr, h.hr, h.fresh⟩

/-- G without the block that is laid next. -/
def boxG (G : Nat → Prop) (x : Nat) : Nat → Prop := fun b => G b ∧ b ≠ x

theorem NC.boxed {w : World} {G : Nat → Prop} {nb cb tb mb : Nat} {keeps bits : Int} {s : MS} {cs : Array Value} {nm : Nat} {ah : Option Addr} {nh ch : Nat} {ar : Option Addr} {nr cr : Nat} (h : NC w G nb cb tb mb keeps bits s cs nm ah nh ch ar nr cr) (o : Obj) : NC (w.alloc o) (boxG G w.heap.size) nb cb tb mb keeps bits s cs nm ah nh ch ar nr cr := by
  have h1 := h.quiet ((Kept.refl _ w).alloc o)
  have := h.blk.lt; have := h.cond.lt; have := h.net.lt; have := h.map.lt
  refine ⟨h1.blk, h1.cells, h1.cond, h1.net, h1.map, h1.held, h1.rv, ⟨⟨h.g.1, by omega⟩, ⟨h.g.2.1, by omega⟩, ⟨h.g.2.2.1, by omega⟩, ⟨h.g.2.2.2, by omega⟩⟩, h.ne, fun b e => ⟨⟨(h.gh b e).1, ?_⟩, (h.gh b e).2⟩, fun b e => ⟨⟨(h.gr b e).1, ?_⟩, (h.gr b e).2⟩, h.hr, fun b hb => ⟨h.fresh b ?_, ?_⟩⟩
  · have := h.held.lt b e; omega
  · have := h.rv.lt b e; omega
  · simp at hb; omega
  · simp at hb; omega
theorem NC.widen {w : World} {G G' : Nat → Prop} {nb cb tb mb : Nat} {keeps bits : Int} {s : MS} {cs : Array Value} {nm : Nat} {ah : Option Addr} {nh ch : Nat} {ar : Option Addr} {nr cr : Nat} (h : NC w G nb cb tb mb keeps bits s cs nm ah nh ch ar nr cr) (hG : ∀ b, G b → G' b) : NC w G' nb cb tb mb keeps bits s cs nm ah nh ch ar nr cr :=
  ⟨h.blk, h.cells, h.cond, h.net, h.map, h.held, h.rv, ⟨hG _ h.g.1, hG _ h.g.2.1, hG _ h.g.2.2.1, hG _ h.g.2.2.2⟩, h.ne, fun b e => ⟨hG b (h.gh b e).1, (h.gh b e).2⟩, fun b e => ⟨hG b (h.gr b e).1, (h.gr b e).2⟩, h.hr, fun b hb => hG b (h.fresh b hb)⟩
theorem NAt.widen {w : World} {G G' : Nat → Prop} {nb cb tb mb : Nat} {keeps bits : Int} {s : MS} {nm : Nat} (h : NAt w G nb cb tb mb keeps bits nm s) (hG : ∀ b, G b → G' b) : NAt w G' nb cb tb mb keeps bits nm s := by
  obtain ⟨_, _, _, _, _, _, _, h⟩ := h
  exact ⟨_, _, _, _, _, _, _, h.widen hG⟩

end Go.Proofs.YbulkdywgDoor
