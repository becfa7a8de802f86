/-
  Seat b6272aD: the node's state, and the stubs' methods.
-/
import Derived.Test.YbulkdywgDoorRoom
namespace Go.Proofs.YbulkdywgDoor
open Go.RowKit
set_option linter.unusedVariables false
set_option maxRecDepth 100000

theorem meth_now (w : World) (b : Nat) : (method 324 60 (.pointer (some ⟨b, 0, none⟩)) "Now").run Ybad.prog w = .ok (72, .pointer (some ⟨b, 0, none⟩)) w := by kernel_rfl
theorem meth_holds (w : World) (b : Nat) : (method 324 63 (.pointer (some ⟨b, 0, none⟩)) "Holds").run Ybad.prog w = .ok (76, .pointer (some ⟨b, 0, none⟩)) w := by kernel_rfl
theorem meth_load (w : World) (b : Nat) : (method 324 63 (.pointer (some ⟨b, 0, none⟩)) "Load").run Ybad.prog w = .ok (78, .pointer (some ⟨b, 0, none⟩)) w := by kernel_rfl
theorem meth_keep (w : World) (b : Nat) : (method 324 63 (.pointer (some ⟨b, 0, none⟩)) "Keep").run Ybad.prog w = .ok (77, .pointer (some ⟨b, 0, none⟩)) w := by kernel_rfl
theorem meth_answer (w : World) (b : Nat) : (method 324 63 (.pointer (some ⟨b, 0, none⟩)) "Answer").run Ybad.prog w = .ok (74, .pointer (some ⟨b, 0, none⟩)) w := by kernel_rfl

set_option maxHeartbeats 1000000 in
theorem idx_any (b : Nat) (a : Option Addr) (n c : Nat) (its : List It) (key : ByteArray) (w : World) (hc : w.cell? ⟨b, 0, none⟩ = some (.slice a n c)) (h : Items w a n its) :
    Calls Ybad.prog 79 #[.pointer (some ⟨b, 0, none⟩), .string key] w fun e w' => e = .returned (.int .i64 (hiOf its key)) ∧ w' = w := by
  obtain ⟨h1, h2, h3⟩ := h
  have H3 : Hid (n = 0 ∨ ∃ b o, a = some ⟨b, o, none⟩ ∧ ∀ j x, its[j]? = some x →
    w.cell? ⟨b, o + j * 4, none⟩ = some (.string x.k) ∧ w.cell? ⟨b, o + j * 4 + 1, none⟩ = some (.string x.v) ∧ w.cell? ⟨b, o + j * 4 + 2, none⟩ = some (.int .u64 x.c) ∧ w.cell? ⟨b, o + j * 4 + 3, none⟩ = some (.int .i32 x.r)) := h3
  clear h3
  go_enter Ybad.func79, Ybad.ntmps79
  go_wp2
  go_loopw [11] (fun i wr => ∃ k : Nat, k ≤ n ∧ i = .int .i64 k ∧ wr = w ∧ Hid (∀ j x, j < k → its[j]? = some x → x.k ≠ key)) (fun i _ => n - (intOf i).toNat)
  case atStart => exact ⟨0, Nat.zero_le _, rfl, rfl, fun j x hj => by omega⟩
  case round =>
    obtain ⟨k, hk, rfl, rfl, HJ⟩ := hrel
    by_cases hlt : k < n
    · rcases H3.out with h0 | ⟨b1, o1, rfl, hcell⟩
      · omega
      have hx : its[k]? = some (its[k]'(by omega)) := by simp
      obtain ⟨x, hxx⟩ : ∃ x, its[k]? = some x := ⟨_, hx⟩
      have hck := (hcell k x hxx).1
      have HX : Hid (its[k]? = some x) := hxx
      have kk : (k : Int) < (n : Int) := by omega
      clear hcell hx hxx
      by_cases he : x.k = key
      · go_wp2
        go_ret
        refine ⟨?_, rfl⟩
        rw [hiOf_at HX.out he HJ.out]
        rfl
      · have hes := str_ne he
        go_wp2
        go_roundw
        case rel =>
          refine ⟨k + 1, by omega, by go_num, by first | rfl | trivial, ?_⟩
          intro j y hj hy
          by_cases hjk : j < k
          · exact HJ.out j y hjk hy
          · obtain rfl : j = k := by omega
            rw [HX.out] at hy
            cases hy
            exact he
        case measure => simp [intOf]; omega
    · obtain rfl : k = n := by omega
      go_wp2
      go_ret
      refine ⟨?_, rfl⟩
      rw [hiOf_none (fun j y hj => HJ.out j y (by omega))]
      rfl


theorem now_any (tb : Nat) (w : World) (now : Int) (hc : w.cell? ⟨tb, 0, none⟩ = some (.int .i64 now)) :
    Calls Ybad.prog 72 #[.pointer (some ⟨tb, 0, none⟩)] w fun e w' => e = .returned (.int .i64 now) ∧ w' = w := by
  go_enter Ybad.func72, Ybad.ntmps72
  go_wp2
  go_ret
  exact ⟨rfl, rfl⟩

theorem load_any (cb : Nat) (a : Option Addr) (n c : Nat) (w : World) (hc : w.cell? ⟨cb, 0, none⟩ = some (.slice a n c)) :
    Calls Ybad.prog 78 #[.pointer (some ⟨cb, 0, none⟩)] w fun e w' => e = .returned (.int .i64 n) ∧ w' = w := by
  go_enter Ybad.func78, Ybad.ntmps78
  go_wp2
  go_ret
  exact ⟨rfl, rfl⟩

theorem holds_any (cb : Nat) (a : Option Addr) (n c : Nat) (its : List It) (key : ByteArray) (w : World) (hc : w.cell? ⟨cb, 0, none⟩ = some (.slice a n c)) (h : Items w a n its) :
    Calls Ybad.prog 76 #[.pointer (some ⟨cb, 0, none⟩), .string key] w fun e w' => e = .returned (.bool (decide (0 ≤ hiOf its key))) ∧ w' = w := by
  have HI : Hid (Items w a n its) := h
  clear h
  go_enter Ybad.func76, Ybad.ntmps76
  go_wp2_with fail
  refine (idx_any cb a n c its key w hc HI.out).mono ?_
  rintro e w1 ⟨rfl, rfl⟩
  go_wp2
  go_ret
  exact ⟨rfl, rfl⟩

def ansV (its : List It) (key : ByteArray) : Value := match its[(hiOf its key).toNat]? , decide (0 ≤ hiOf its key) with
  | some x, true => .tuple #[.string x.v, .agg #[.int .u64 x.c, .int .i32 x.r], .bool true]
  | _, _ => .tuple #[.string ⟨#[]⟩, .agg #[.int .u64 0, .int .i32 0], .bool false]

set_option maxHeartbeats 1000000 in
theorem answer_any (cb : Nat) (a : Option Addr) (n c : Nat) (its : List It) (key : ByteArray) (w : World) (hc : w.cell? ⟨cb, 0, none⟩ = some (.slice a n c)) (h : Row It.cells 4 w a n c its) :
    Calls Ybad.prog 74 #[.pointer (some ⟨cb, 0, none⟩), .string key] w fun e w' => e = .returned (ansV its key) ∧ Kept (fun _ => False) w w' := by
  have HI : Hid (Row It.cells 4 w a n c its) := h
  have hlt : cb < w.heap.size := World.block_lt_of_cell? w _ hc
  clear h
  go_enter Ybad.func74, Ybad.ntmps74
  go_wp2_with fail
  refine (idx_any cb a n c its key (w.alloc (.cells #[.int .u64 0, .int .i32 0] 35)) ((World.cell?_alloc_lt w _ ⟨cb, 0, none⟩ hlt).trans hc) (HI.out.alloc _).items).mono ?_
  rintro e w1 ⟨rfl, rfl⟩
  have hK : Kept (fun _ => False) w (w.alloc (.cells #[.int .u64 0, .int .i32 0] 35)) := (Kept.refl _ w).alloc _
  have HK : Hid (Kept (fun _ => False) w (w.alloc (.cells #[.int .u64 0, .int .i32 0] 35))) := hK
  clear hK
  rcases hiOf_cases its key with ⟨e1, e2⟩ | ⟨j, x, e1, e2, e3⟩
  · have HE : Hid (ansV its key = .tuple #[.string ⟨#[]⟩, .agg #[.int .u64 0, .int .i32 0], .bool false]) := by
      show ansV its key = _
      unfold ansV
      rw [e1]
      cases its[(-1 : Int).toNat]? <;> rfl
    rw [e1]
    clear e1 e2
    go_wp2
    refine bodyPost_ret (v := .tuple #[.string ⟨#[]⟩, .agg #[.int .u64 0, .int .i32 0], .bool false]) (by simp [results, Ybad.results74, go_sem]; try rfl) rfl ?_
    exact ⟨by rw [HE.out], HK.out⟩
  · have HE : Hid (ansV its key = .tuple #[.string x.v, .agg #[.int .u64 x.c, .int .i32 x.r], .bool true]) := by
      show ansV its key = _
      unfold ansV
      rw [e1]
      simp [e2]
    obtain ⟨h1, h2, h3⟩ := HI.out.items
    have hjl := (List.getElem?_eq_some_iff.1 e2).1
    rcases h3 with h0 | ⟨b1, o1, rfl, hcell⟩
    · omega
    obtain ⟨q0, q1, q2, q3⟩ := hcell j x e2
    have hb1 : b1 < w.heap.size := World.block_lt_of_cell? w _ q0
    have jn : (j : Int) < (n : Int) := by omega
    clear hcell h1 h2 e2 e3 hjl
    rw [e1]
    go_wp2
    go_region
    all_goals
      go_wp2
      refine bodyPost_ret (v := .tuple #[.string x.v, .agg #[.int .u64 x.c, .int .i32 x.r], .bool true]) (by simp [results, Ybad.results74, go_sem]; try rfl) rfl ?_
      exact ⟨by rw [HE.out], ((Kept.refl _ w).alloc _).drew⟩

end Go.Proofs.YbulkdywgDoor
