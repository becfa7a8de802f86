/-
  Seat b6272aD: a whole message loaded and stored in straight code.
-/
import Derived.Test.YbulkdywgDoorT17
namespace Go.Proofs.YbulkdywgDoor
open Go.RowKit
set_option linter.unusedVariables false
set_option maxRecDepth 100000

theorem wpList_load59 (w : World) {ops : Array Oper} {rest : List Oper} {o : Oper} {a : Act} {Q : Exit → Act → World → Prop} (hg : o.guard = none) (x : Operand) (ho : o.op = .load 59 x) {b : Nat} {cs : Array Value} (hx : a.eval x = .pointer (some ⟨b, 0, none⟩)) (h : Blk w b cs) (hs : cs.size = 18)
    (hK : wpList Ybad.prog ops Q rest (a.put o.dst (.agg cs)) w) : wpList Ybad.prog ops Q (o :: rest) a w := by
  refine wpList_plain hg fun K hK' => ?_
  unfold Oper.wp
  simp [execOp, ho, hx, run_load59 w h hs, Result.andThen]
  exact hK' _ _ hK

theorem msg_one (m : Msg) : ∀ v ∈ m.cells.toList, v.oneCell' = true := by
  unfold Msg.cells
  simp only [List.mem_cons, List.not_mem_nil, or_false]
  rintro v (rfl | rfl | rfl | rfl | rfl | rfl | rfl | rfl | rfl | rfl | rfl | rfl | rfl | rfl | rfl | rfl | rfl | rfl) <;> rfl

theorem run_store59 (w : World) {b : Nat} {old : Array Value} (m : Msg) (h : Blk w b old) (hs : old.size = 18) :
    ∃ w', (Instr.storeAt 59 (.pointer (some ⟨b, 0, none⟩)) (.agg m.cells)).run Ybad.prog w = .ok () w' ∧ Blk w' b m.cells ∧ w.grownBy w' (some b) ∧ w'.heap.size = w.heap.size := by
  obtain ⟨e, h⟩ := h
  cases hi : Ybad.prog.info? 59 with
  | none => have := info59; rw [hi] at this; cases this
  | some j =>
    have hj : j.size = 18 := by have := info59; rw [hi] at this; simpa using this
    have hst := run_storeCells_from (P := Ybad.prog) b e m.cells.toList 0 old w h (by rw [hs]; rfl) (msg_one m)
    refine ⟨_, ?_, ⟨e, setRow_heap w b old _ e _ h⟩, ⟨rfl, rfl, rfl, by simp, fun k _ hk => setRow_other w b k _ (fun e => hk (by rw [e]))⟩, by simp⟩
    have hcs : (Value.agg m.cells).cells = m.cells := rfl
    simp only [Instr.storeAt, Instr.sureAddr, storeVar, sizeOf, typeInfo, hcs]
    simp [hst, hi, hj]
    rfl

theorem wpList_store59 (w : World) {ops : Array Oper} {rest : List Oper} {o : Oper} {a : Act} {Q : Exit → Act → World → Prop} (hg : o.guard = none) (x y : Operand) (ho : o.op = .store 59 x y) (m : Msg) {b : Nat} {old : Array Value} (hx : a.eval x = .pointer (some ⟨b, 0, none⟩)) (hy : a.eval y = .agg m.cells) (h : Blk w b old) (hs : old.size = 18)
    (hK : ∀ w', Blk w' b m.cells → w.grownBy w' (some b) → w'.heap.size = w.heap.size → wpList Ybad.prog ops Q rest (a.put o.dst undef) w') : wpList Ybad.prog ops Q (o :: rest) a w := by
  refine wpList_plain hg fun K hK' => ?_
  obtain ⟨w', hrun, r1, r2, r3⟩ := run_store59 w m h hs
  unfold Oper.wp
  simp [execOp, ho, hx, hy, hrun, Result.andThen]
  exact hK' _ _ (hK w' r1 r2 r3)

end Go.Proofs.YbulkdywgDoor
