/-
  Seat b6272aD: the node's apply.
-/
import Derived.Test.YbulkdywgDoorTell
import Derived.Test.YbulkdywgDoorBox
import Derived.StillTailTactics
namespace Go.Proofs.YbulkdywgDoor
open Go.RowKit
set_option linter.unusedVariables false
set_option maxRecDepth 100000

structure Msg where
  o : Int
  q : Int
  kind : Int
  route : Int
  src : Int
  dst : Int
  hop : Int
  skip : Int
  skipped : Int
  key : ByteArray
  value : ByteArray
  count : Int
  writer : Int
  found : Bool
  hops : Int
  load : Int

def Msg.cells (m : Msg) : Array Value := #[.int .i32 m.o, .int .u32 m.q, .int .u8 m.kind, .int .i64 m.route, .int .u32 m.src, .int .u32 m.dst, .int .i64 m.hop, .int .i64 m.skip, .int .i64 m.skipped, .string m.key, .string m.value, .int .u64 m.count, .int .i32 m.writer, .bool m.found, .int .i64 m.hops, .int .i64 m.load, .pointer none, .pointer none]

def replyOf (k : Int) : Int := if k = 1 then 3 else if k = 2 then 4 else if k = 10 then 11 else 0

def KindsIn (w : World) : Prop := ∀ k : Nat, k < 13 → w.cell? ⟨0, k * 3, none⟩ = some (.int .u8 (replyOf k))

theorem reply_any (k : Int) (h0 : 0 ≤ k) (h1 : k < 13) (w : World) (hk : KindsIn w) :
    Calls Ybad.prog 17 #[.int .u8 k] w fun e w' => e = .returned (.int .u8 (replyOf k)) ∧ w' = w := by
  obtain ⟨n, rfl⟩ : ∃ n : Nat, k = n := ⟨k.toNat, by omega⟩
  have hc := hk n (by omega)
  clear hk
  go_enter Ybad.func17, Ybad.ntmps17
  go_wp2
  go_ret
  exact ⟨rfl, rfl⟩

def Msg.reply (m : Msg) : Msg := ⟨m.o, m.q, replyOf m.kind, m.route, m.src, m.dst, m.hop, 0, 0, m.key, ⟨#[]⟩, 0, 0, false, wrap64 (m.hop - m.skipped), 0⟩

set_option maxHeartbeats 2000000 in
theorem apply_other (nb mk : Nat) (m : Msg) (w : World) (hm : Blk w mk m.cells) (hk : KindsIn w) (h0 : 0 ≤ m.kind) (h1 : m.kind < 13) (hn1 : m.kind ≠ 1) (hn2 : m.kind ≠ 2) (hn10 : m.kind ≠ 10) :
    Calls Ybad.prog 13 #[.pointer (some ⟨nb, 0, none⟩), .pointer (some ⟨mk, 0, none⟩)] w fun e w' => e = .returned (.pointer (some ⟨w.heap.size, 0, none⟩)) ∧ Blk w' w.heap.size m.reply.cells ∧ Kept (fun _ => False) w w' := by
  have c0 : w.cell? ⟨mk, 0, none⟩ = some (.int .i32 m.o) := hm.cell 0
  have c1 : w.cell? ⟨mk, 1, none⟩ = some (.int .u32 m.q) := hm.cell 1
  have c2 : w.cell? ⟨mk, 2, none⟩ = some (.int .u8 m.kind) := hm.cell 2
  have c3 : w.cell? ⟨mk, 3, none⟩ = some (.int .i64 m.route) := hm.cell 3
  have c4 : w.cell? ⟨mk, 4, none⟩ = some (.int .u32 m.src) := hm.cell 4
  have c5 : w.cell? ⟨mk, 5, none⟩ = some (.int .u32 m.dst) := hm.cell 5
  have c6 : w.cell? ⟨mk, 6, none⟩ = some (.int .i64 m.hop) := hm.cell 6
  have c8 : w.cell? ⟨mk, 8, none⟩ = some (.int .i64 m.skipped) := hm.cell 8
  have c9 : w.cell? ⟨mk, 9, none⟩ = some (.string m.key) := hm.cell 9
  have HKI : Hid (KindsIn w) := hk
  have HMB : Hid (Blk w mk m.cells) := hm
  have hlt := hm.lt
  have H0 : Hid (0 ≤ m.kind ∧ m.kind < 13) := ⟨h0, h1⟩
  clear hk hm
  go_enter Ybad.func13, Ybad.ntmps13
  go_wp2_with fail
  refine wp_region_still_tail 39 (by kernel_rfl) (by kernel_rfl) ?_
  simp only [List.take_succ_cons, List.take_zero, List.drop_succ_cons, List.drop_zero]
  repeat still_step
  refine wpStill_step (fun K hK => ?_)
  go_simp
  refine ⟨_, reply_any m.kind H0.out.1 H0.out.2 w.drew HKI.out, hK _ ?_⟩
  clear hK K
  repeat still_step
  refine wpStill_nil ?_
  go_wp2_with fail
  go_ret
  exact ⟨rfl, Blk.new _ _ _, ((Kept.refl _ w).alloc _).drew⟩

/-- A call by its contract as a step of a region that draws. -/
theorem step_call3 {w : World} {ops : Array Oper} {o : Oper} {a : Act} {K : Act → World → Prop} {Q : Exit → Act → World → Prop} {E : Prop} (hgd : o.guard = none) (f : FuncId) (x0 x1 x2 : Operand) (t0 t1 t2 : TypeId)
    (ho : o.op = .call { callee := .value (.func f), args := #[x0, x1, x2], argTypes := #[t0, t1, t2] }) (v0 v1 v2 : Value) (h0 : a.eval x0 = v0) (h1 : a.eval x1 = v1) (h2 : a.eval x2 = v2)
    (hgo : (callFunc f #[v0, v1, v2]).run Ybad.prog w = .ok (.enter f #[v0, v1, v2]) w) (v : Value) (T : World → Prop) (hc : Calls Ybad.prog f #[v0, v1, v2] w (fun e w' => e = .returned v ∧ T w'))
    (h : ∀ w', T w' → K (a.put o.dst v) w') : if Region.wanted o (yielded ops a.tmps) = true then Oper.wp Ybad.prog o a w K Q else E := by
  have hw : Region.wanted o (yielded ops a.tmps) = true := by simp [Region.wanted, hgd]
  rw [if_pos hw]
  have hf : a.eval (.func f) = .func (.func f) #[] #[] := rfl
  have hcall : (execOp a.eval o).run Ybad.prog w = (callFunc f #[v0, v1, v2]).run Ybad.prog w := by
    simp [execOp, ho, resolve, invoke, h0, h1, h2, hf, Deferred.ofValue]
  unfold Oper.wp
  rw [hcall, hgo]
  simp only [Oper.upon]
  refine hc.mono ?_
  rintro e w' ⟨rfl, hk⟩
  exact h w' hk

/-- A call of Answer as a step of a region that draws. -/
theorem step_answer {w : World} {ops : Array Oper} {o : Oper} {a : Act} {K : Act → World → Prop} {Q : Exit → Act → World → Prop} {E : Prop} (hgd : o.guard = none) (x y : Operand)
    (ho : o.op = .call { callee := .invoke x "Answer", args := #[y], argTypes := #[9] }) (cb : Nat) (key : ByteArray) (hx : a.eval x = .iface 63 (.pointer (some ⟨cb, 0, none⟩))) (hy : a.eval y = .string key) (ah : Option Addr) (nh ch : Nat) (its : List It) (hc : w.cell? ⟨cb, 0, none⟩ = some (.slice ah nh ch)) (hr : Row It.cells 4 w ah nh ch its)
    (h : ∀ w', Kept (fun _ => False) w w' → K (a.put o.dst (ansV its key)) w') : if Region.wanted o (yielded ops a.tmps) = true then Oper.wp Ybad.prog o a w K Q else E := by
  have hw : Region.wanted o (yielded ops a.tmps) = true := by simp [Region.wanted, hgd]
  rw [if_pos hw]
  have hcm : (callMethod (.iface 63 (.pointer (some ⟨cb, 0, none⟩))) "Answer" #[.string key]).run Ybad.prog w = .ok (.enter 74 #[.pointer (some ⟨cb, 0, none⟩), .string key]) w := by kernel_rfl
  have hcall : (execOp a.eval o).run Ybad.prog w = .ok (.enter 74 #[.pointer (some ⟨cb, 0, none⟩), .string key]) w := by
    simp [execOp, ho, resolve, invoke, hx, hy, hcm]
  unfold Oper.wp
  rw [hcall]
  simp only [Oper.upon]
  refine (answer_any cb ah nh ch its key w hc hr).mono ?_
  rintro e w' ⟨rfl, hk⟩
  exact h w' hk

/-- Behind a put. -/
def putFound (s : MS) (m : Msg) : Bool := keepsB s m.o m.q m.key
def putS (s : MS) (m : Msg) : MS :=
  let s1 := keepsS s m.o m.q m.key
  if putFound s m then
    let s2 : MS := { s1 with held := keepL s1.held ⟨m.key, m.value, m.count, m.writer⟩ }
    { s2 with told := toldOf s2.held.length s2.told }
  else s1

end Go.Proofs.YbulkdywgDoor
