/-
  Seat b6272aD: loading, storing and comparing a whole message.
-/
import Derived.Test.YbulkdywgDoorT27
namespace Go.Proofs.YbulkdywgDoor
open Go.RowKit
set_option linter.unusedVariables false
set_option maxRecDepth 100000

theorem und59 : ∃ fs, Ybad.prog.underlying 59 = some (.struct fs) := ⟨_, rfl⟩

theorem run_load59 (w : World) {b : Nat} {cs : Array Value} (h : Blk w b cs) (hs : cs.size = 18) : (Instr.loadAt 59 (.pointer (some ⟨b, 0, none⟩))).run Ybad.prog w = .ok (.agg cs) w := by
  obtain ⟨e, h⟩ := h
  obtain ⟨fs, hu⟩ := und59
  have := run_loadVar_row (P := Ybad.prog) w b e 59 cs (0, 0) _ h hu rfl (by rw [hs]; exact info59)
  simp [Instr.loadAt, Instr.sureAddr, this]

theorem quiet_load59 {C : World → Prop} {a : Act} {o : Oper} {K : Act → Prop} (x : Operand) (h : o.op = .load 59 x) {b : Nat} {cs : Array Value} (hx : a.eval x = .pointer (some ⟨b, 0, none⟩)) (hC : ∀ w, C w → Blk w b cs) (hs : cs.size = 18)
    (hk : K (a.put o.dst (.agg cs))) : o.quiet Ybad.prog a C K :=
  ⟨_, fun w hw => by
    unfold Oper.quietAt
    have : (execOp a.eval o).run Ybad.prog w = .ok (.value (.agg cs)) w := by simp [execOp, h, hx, run_load59 w (hC w hw) hs, Result.andThen]
    rw [this]
    exact ⟨rfl, rfl⟩, hk⟩

set_option maxHeartbeats 1000000 in
theorem msg_neq (m : Msg) (w : World) : (binOp .neq 59 (.agg m.cells) (.agg m.cells)).run Ybad.prog w = .ok (.bool false) w := by
  have e56 := eq56
  have e57 := eq57
  unfold Msg.cells
  go_simp

theorem eqG59 : Ybad.prog.eqGuardType Ybad.prog.depth 59 = false := by kernel_rfl

theorem quiet_neq59 {C : World → Prop} {a : Act} {o : Oper} {K : Act → Prop} (x y : Operand) (h : o.op = .binOp .neq 59 x y 59) (m : Msg) (hx : a.eval x = .agg m.cells) (hy : a.eval y = .agg m.cells)
    (hk : K (a.put o.dst (.bool false))) : o.quiet Ybad.prog a C K :=
  ⟨_, fun w hw => by
    unfold Oper.quietAt
    have : (execOp a.eval o).run Ybad.prog w = .ok (.value (.bool false)) w := by
      simp [execOp, h, hx, hy, msg_neq m w, run_eqGuard_agg w .neq 59 x y m.cells m.cells eqG59, Result.andThen]
    rw [this]
    exact ⟨rfl, rfl⟩, hk⟩

end Go.Proofs.YbulkdywgDoor
