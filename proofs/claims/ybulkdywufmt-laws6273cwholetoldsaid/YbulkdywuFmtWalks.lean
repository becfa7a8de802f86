/-
  The walks of seat b6273aF: recordKind.String, the model's table, the law, for every F that fmt may answer by.
-/
import Derived.Test.YbulkdywuFmtRows
import Derived.WalkKit
import Derived.WalkSpells
import Derived.WalkLawsBesides
import Derived.Stop.CallBack
import Derived.Stop.IfaceNil
import GoSem.ClaimData
namespace Go.Proofs.YbulkdywuFmt
open Go.RowKit Go.Extern.Stop Go.Stop Go.Extern

theorem Ybaf.call6 (args : Array Value) (w : World) : (callFunc 6 args).run Ybaf.prog w = ((FmtStop.sprintf #[9, 43] #[9] args).run Ybaf.prog w).andThen fun v w' => .ok (.value v) w' :=
  run_callFunc_extern Ybaf.func6 (by kernel_rfl) (by kernel_rfl) (by kernel_rfl) (by kernel_rfl) args w
theorem Ybaf.guard (name : String) (w : World) : (FmtStop.guard name).run Ybaf.prog w = .ok () w := by kernel_rfl
theorem Ybaf.fmt0 : FmtStop.printed? ⟨#[117, 110, 107, 110, 111, 119, 110, 32, 40, 37, 35, 48, 50, 120, 41]⟩ 1 = some [(0, 120, true)] := by kernel_rfl
theorem Ybaf.fmt0r (w : World) : (FmtDoors.printed ⟨#[117, 110, 107, 110, 111, 119, 110, 32, 40, 37, 35, 48, 50, 120, 41]⟩ 1).run Ybaf.prog w = .ok [(0, 120, true)] w := by kernel_rfl
def shape5 : List UInt8 := [6, 5, 0, 0, 0, 0, 0, 0, 0, 117, 105, 110, 116, 56]
theorem Ybaf.op5 (name : String) (x : Int) (w : World) : (FmtStop.operand name false 120 true (.iface 5 (.int .u8 x))).run Ybaf.prog w = .ok (shape5, Go.Extern.Stop.digits 8 (x % 2 ^ 64).toNat) w := by kernel_rfl

set_option maxHeartbeats 400000 in
/-- A byte that names no kind: fmt's text, whatever it is. -/
theorem string_other (F : Interp) (x : Int) (w : World) (hF : F.answers w.tape) (h1 : (x == 1) = false) (h2 : (x == 2) = false) (h3 : (x == 3) = false) :
    Calls Ybaf.prog 4 #[.int .u8 x] w fun e w' => ∃ s, e = .returned (.string s) ∧ Below w.heap.size w w' := by
  have hF' := answers_open hF
  have c6 := Ybaf.call6
  have cg := Ybaf.guard
  have cf := Ybaf.fmt0
  have cr := Ybaf.fmt0r
  have co := Ybaf.op5
  go_enter Ybaf.func4, Ybaf.ntmps4
  go_wp2
  go_ret
  exact ⟨_, rfl, ((Below.refl _ _).alloc (Nat.le_refl _) _).drew⟩

theorem law_known (x : Int) (w : World) (hx : x = 1 ∨ x = 2 ∨ x = 3) :
    Calls Ybaf.prog 3 #[.int .u8 x] w fun e w' => e = .returned (.bool true) ∧ Below w.heap.size w w' := by
  rcases hx with rfl | rfl | rfl
  all_goals
    go_enter Ybaf.func3, Ybaf.ntmps3
    go_wp2
    go_ret
    exact ⟨rfl, Below.refl _ _⟩

set_option maxHeartbeats 400000 in
theorem law_other (F : Interp) (x : Int) (w : World) (hF : F.answers w.tape) (h1 : (x == 1) = false) (h2 : (x == 2) = false) (h3 : (x == 3) = false) :
    Calls Ybaf.prog 3 #[.int .u8 x] w fun e w' => e = .returned (.bool true) ∧ Below w.heap.size w w' := by
  have hs := string_other F x w hF h1 h2 h3
  go_enter Ybaf.func3, Ybaf.ntmps3
  go_wp2_with fail
  refine hs.mono ?_
  clear hs
  rintro e w1 ⟨s, rfl, hb⟩
  go_wp2
  go_ret
  exact ⟨rfl, hb⟩

theorem law_any (F : Interp) (x : Int) (w : World) (hF : F.answers w.tape) :
    Calls Ybaf.prog 3 #[.int .u8 x] w fun e w' => e = .returned (.bool true) ∧ Below w.heap.size w w' := by
  by_cases h1 : x = 1
  · exact law_known x w (.inl h1)
  by_cases h2 : x = 2
  · exact law_known x w (.inr (.inl h2))
  by_cases h3 : x = 3
  · exact law_known x w (.inr (.inr h3))
  exact law_other F x w hF (by simpa using h1) (by simpa using h2) (by simpa using h3)

end Go.Proofs.YbulkdywuFmt
