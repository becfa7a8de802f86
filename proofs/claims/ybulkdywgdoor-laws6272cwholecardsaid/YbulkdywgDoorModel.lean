/-
  Seat b6272aD: the model's own functions: ri, drop, lapse, room.
-/
import Derived.Test.YbulkdywgDoorMap
import Derived.Deep.RegionLaw
namespace Go.Proofs.YbulkdywgDoor
open Go.RowKit
set_option linter.unusedVariables false
set_option maxRecDepth 100000

set_option maxHeartbeats 1000000 in
theorem ri_any (b : Nat) (a : Option Addr) (n c : Nat) (ps : List Pr) (o q : Int) (w : World) (hc : w.cell? ⟨b, 1, none⟩ = some (.slice a n c)) (h : Pairs w a n ps) :
    Calls Ybad.prog 9 #[.pointer (some ⟨b, 0, none⟩), opV o q] w fun e w' => e = .returned (.int .i64 (riOf ps o q)) ∧ Kept (fun _ => False) w w' := by
  obtain ⟨h1, h2, h3⟩ := h
  have H3 : Hid (n = 0 ∨ ∃ b o, a = some ⟨b, o, none⟩ ∧ ∀ j x, ps[j]? = some x →
    w.cell? ⟨b, o + j * 3, none⟩ = some (.int .i32 x.o) ∧ w.cell? ⟨b, o + j * 3 + 1, none⟩ = some (.int .u32 x.q) ∧ w.cell? ⟨b, o + j * 3 + 2, none⟩ = some (.string x.key)) := h3
  clear h3
  have hlt : b < w.heap.size := World.block_lt_of_cell? w _ hc
  unfold opV
  go_enter Ybad.func9, Ybad.ntmps9
  go_wp2
  go_loopw [11] (fun i wr => ∃ k : Nat, k ≤ n ∧ i = .int .i64 k ∧ (∃ z, wr = (w.alloc (.cells #[.int .i32 o, .int .u32 q] 43)).drewN z) ∧ Hid (∀ j x, j < k → ps[j]? = some x → ¬ (x.o = o ∧ x.q = q))) (fun i _ => n - (intOf i).toNat)
  case atStart => exact ⟨0, Nat.zero_le _, rfl, ⟨0, rfl⟩, fun j x hj => by omega⟩
  case round =>
    obtain ⟨k, hk, rfl, ⟨z, rfl⟩, HJ⟩ := hrel
    by_cases hlt : k < n
    · rcases H3.out with h0 | ⟨b1, o1, rfl, hcell⟩
      · omega
      have hx : ps[k]? = some (ps[k]'(by omega)) := by simp
      obtain ⟨x, hxx⟩ : ∃ x, ps[k]? = some x := ⟨_, hx⟩
      have hck := (hcell k x hxx).1
      have hck1 := (hcell k x hxx).2.1
      have HX : Hid (ps[k]? = some x) := hxx
      have kk : (k : Int) < (n : Int) := by omega
      have hb1 : b1 < w.heap.size := World.block_lt_of_cell? w _ hck
      clear hcell hx hxx
      have hrel' : ¬ (x.o = o ∧ x.q = q) → Hid (∀ j x, j < k + 1 → ps[j]? = some x → ¬ (x.o = o ∧ x.q = q)) := fun he j y hj hy => by
        by_cases hjk : j < k
        · exact HJ.out j y hjk hy
        · obtain rfl : j = k := by omega
          rw [HX.out] at hy
          cases hy
          exact he
      by_cases he : x.o = o
      · by_cases he2 : x.q = q
        · obtain rfl := he
          obtain rfl := he2
          clear hrel'
          go_wp2
          go_quiet (fail)
          go_wp2
          go_ret
          refine ⟨?_, ⟨rfl, rfl, rfl, by simp, fun k hk _ => Below.heap_alloc _ _ _ hk⟩⟩
          rw [riOf_some HX.out ⟨rfl, rfl⟩ HJ.out]
          rfl
        · have hes : (x.q == q) = false := by simpa using he2
          have HR := hrel' (fun e => he2 e.2)
          obtain rfl := he
          clear hrel' he2
          go_wp2
          go_quiet (fail)
          go_wp2
          go_roundw
          case rel => exact ⟨k + 1, by omega, by go_num, ⟨_, rfl⟩, HR⟩
          case measure => simp [intOf]; omega
      · have hes : (x.o == o) = false := by simpa using he
        have HR := hrel' (fun e => he e.1)
        clear hrel' he
        go_wp2
        go_quiet (fail)
        go_wp2
        go_roundw
        case rel => exact ⟨k + 1, by omega, by go_num, ⟨_, rfl⟩, HR⟩
        case measure => simp [intOf]; omega
    · obtain rfl : k = n := by omega
      go_wp2
      go_ret
      refine ⟨?_, ⟨rfl, rfl, rfl, by simp, fun k hk _ => Below.heap_alloc _ _ _ hk⟩⟩
      rw [riOf_none (fun j y hj => HJ.out j y (by omega))]
      rfl

end Go.Proofs.YbulkdywgDoor
