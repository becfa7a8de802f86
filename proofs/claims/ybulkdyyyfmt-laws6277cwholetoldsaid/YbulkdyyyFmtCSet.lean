/-
  Seat b6277aF: clockSetOf.
-/
import Derived.Test.YbulkdyyyFmtOfR
namespace Go.Proofs.YbulkdyyyFmt
open Go.RowKit Go.Sort Go.Shelf
set_option linter.unusedVariables false
set_option linter.unnecessarySimpa false

/-- A set of clock values, all of it at or behind D. -/
def CSetN (D : Nat) (w : World) (sb : Nat) (rs : List Rn) : Prop := ∃ root cs, D ≤ sb ∧ Blk w sb cs ∧ cs[0]? = some (.pointer root) ∧ RopeN Rn.cells 2 D w root rs
theorem CSetN.cset {D : Nat} {w : World} {sb : Nat} {rs : List Rn} (h : CSetN D w sb rs) : CSet w.heap.size w (some ⟨sb, 0, none⟩) rs := by
  obtain ⟨root, cs, h1, h2, h3, h4⟩ := h
  exact .inr ⟨sb, root, cs, rfl, h2.lt, h2, h3, h4.rope⟩
theorem CSetN.eqv {D : Nat} {w w' : World} {sb : Nat} {rs : List Rn} (h : CSetN D w sb rs) (he : ∀ k, D ≤ k → k < w.heap.size → w'.heap[k]? = w.heap[k]?) : CSetN D w' sb rs := by
  obtain ⟨root, cs, h1, h2, h3, h4⟩ := h
  exact ⟨root, cs, h1, h2.eqv (he sb h1 h2.lt), h3, h4.eqv he⟩
theorem CSetN.mono {D D' : Nat} {w : World} {sb : Nat} {rs : List Rn} (h : CSetN D w sb rs) (hD : D' ≤ D) : CSetN D' w sb rs := by
  obtain ⟨root, cs, h1, h2, h3, h4⟩ := h
  exact ⟨root, cs, Nat.le_trans hD h1, h2, h3, h4.mono hD⟩

set_option maxHeartbeats 1000000 in
theorem cset_any (a : Option Addr) (n c : Nat) (rs : List Rn) (w : World) (hr : Row Rn.cells 2 w a n c rs) (hn : n ≤ 4096) :
    Calls Ybaf.prog 42 #[.slice a n c] w fun e w' => ∃ sb, e = .returned (.pointer (some ⟨sb, 0, none⟩)) ∧ CSetN w.heap.size w' sb rs ∧ Kept (fun _ => False) w w' := by
  have HC : Hid _ := OfR.of_any a n c rs w hr hn
  clear hr
  go_enter Ybaf.func42, Ybaf.ntmps42
  go_wp2_with fail
  refine Calls.mono HC.out ?_
  rintro e w1 ⟨root, fv, rfl, hrope, hk⟩
  have HR : Hid (RopeN Rn.cells 2 w.heap.size w1 root rs) := hrope
  have HK : Hid (Kept (fun _ => False) w w1) := hk
  clear hrope hk
  go_wp2_with fail
  go_ret
  exact ⟨_, rfl, ⟨root, _, HK.out.size, Blk.new w1 _ 150, rfl, HR.out.eqv (fun k _ hl => Below.heap_alloc _ _ _ hl)⟩, HK.out.alloc _⟩

end Go.Proofs.YbulkdyyyFmt
