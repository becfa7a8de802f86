/-
  Seat b6272aD: plain data of the law, and the model's two searches.
-/
import Derived.Test.YbulkdywgDoorRows
import Derived.WalkKit
import Derived.ProofKit
import Derived.Below
import Derived.OwnWalk
import Derived.BigQuiet
import Derived.Laws.StructEq
import Derived.Deep.QuietTactic
namespace Go.Proofs.YbulkdywgDoor
open Go.RowKit
set_option linter.unusedVariables false

theorem below_drewN {B : Nat} {a w : World} (h : Below B a w) (q : Nat) : Below B a (w.drewN q) := ⟨h.os, h.tape, h.output, h.size, h.block⟩

structure It where
  k : ByteArray
  v : ByteArray
  c : Int
  r : Int

structure Pr where
  o : Int
  q : Int
  key : ByteArray

structure Rs where
  o : Int
  q : Int
  t : Int

/-- A slice whose elements are these items. -/
def Items (w : World) (a : Option Addr) (n : Nat) (its : List It) : Prop :=
  its.length = n ∧ n ≤ 2000000 ∧ (n = 0 ∨ ∃ b o, a = some ⟨b, o, none⟩ ∧ ∀ j x, its[j]? = some x →
    w.cell? ⟨b, o + j * 4, none⟩ = some (.string x.k) ∧ w.cell? ⟨b, o + j * 4 + 1, none⟩ = some (.string x.v) ∧ w.cell? ⟨b, o + j * 4 + 2, none⟩ = some (.int .u64 x.c) ∧ w.cell? ⟨b, o + j * 4 + 3, none⟩ = some (.int .i32 x.r))

/-- A slice whose elements are these pairs. -/
def Pairs (w : World) (a : Option Addr) (n : Nat) (ps : List Pr) : Prop :=
  ps.length = n ∧ n ≤ 2000000 ∧ (n = 0 ∨ ∃ b o, a = some ⟨b, o, none⟩ ∧ ∀ j x, ps[j]? = some x →
    w.cell? ⟨b, o + j * 3, none⟩ = some (.int .i32 x.o) ∧ w.cell? ⟨b, o + j * 3 + 1, none⟩ = some (.int .u32 x.q) ∧ w.cell? ⟨b, o + j * 3 + 2, none⟩ = some (.string x.key))

/-- The first place whose key is this one; -1 where there is none. -/
def hiOf (its : List It) (key : ByteArray) : Int := match its.findIdx? (fun x => decide (x.k = key)) with | some i => (i : Int) | none => -1
def riOf (ps : List Pr) (o q : Int) : Int := match ps.findIdx? (fun x => decide (x.o = o ∧ x.q = q)) with | some i => (i : Int) | none => -1

theorem str_ne {a b : ByteArray} (h : ¬ a = b) : (a.toList == b.toList) = false := by
  rw [ByteArray.toList_eq, ByteArray.toList_eq]
  obtain ⟨⟨x⟩⟩ := a
  obtain ⟨⟨y⟩⟩ := b
  simpa using h

theorem hiOf_at {its : List It} {key : ByteArray} {k : Nat} {x : It} (hx : its[k]? = some x) (he : x.k = key) (hn : ∀ j y, j < k → its[j]? = some y → y.k ≠ key) : hiOf its key = k := by
  have : its.findIdx? (fun x => decide (x.k = key)) = some k := by
    rw [List.findIdx?_eq_some_iff_getElem]
    obtain ⟨hk, rfl⟩ := List.getElem?_eq_some_iff.1 hx
    exact ⟨hk, by simpa using he, fun j hj => by simpa using hn j _ hj (by simp [Nat.lt_trans hj hk])⟩
  unfold hiOf
  rw [this]

theorem hiOf_none {its : List It} {key : ByteArray} (hn : ∀ j y, j < its.length → its[j]? = some y → y.k ≠ key) : hiOf its key = -1 := by
  have : its.findIdx? (fun x => decide (x.k = key)) = none := by
    rw [List.findIdx?_eq_none_iff]
    intro x hx
    obtain ⟨j, hj, rfl⟩ := List.getElem_of_mem hx
    simpa using hn j _ hj (by simp)
  unfold hiOf
  rw [this]

set_option maxHeartbeats 1000000 in
theorem hi_any (b : Nat) (a : Option Addr) (n c : Nat) (its : List It) (key : ByteArray) (w : World) (hc : w.cell? ⟨b, 0, none⟩ = some (.slice a n c)) (h : Items w a n its) :
    Calls Ybad.prog 12 #[.pointer (some ⟨b, 0, none⟩), .string key] w fun e w' => e = .returned (.int .i64 (hiOf its key)) ∧ w' = w := by
  obtain ⟨h1, h2, h3⟩ := h
  have H3 : Hid (n = 0 ∨ ∃ b o, a = some ⟨b, o, none⟩ ∧ ∀ j x, its[j]? = some x →
    w.cell? ⟨b, o + j * 4, none⟩ = some (.string x.k) ∧ w.cell? ⟨b, o + j * 4 + 1, none⟩ = some (.string x.v) ∧ w.cell? ⟨b, o + j * 4 + 2, none⟩ = some (.int .u64 x.c) ∧ w.cell? ⟨b, o + j * 4 + 3, none⟩ = some (.int .i32 x.r)) := h3
  clear h3
  go_enter Ybad.func12, Ybad.ntmps12
  go_wp2
  go_loopw [11] (fun i wr => ∃ k : Nat, k ≤ n ∧ i = .int .i64 k ∧ wr = w ∧ Hid (∀ j x, j < k → its[j]? = some x → x.k ≠ key)) (fun i _ => n - (intOf i).toNat)
  case atStart => exact ⟨0, Nat.zero_le _, rfl, rfl, fun j x hj => by omega⟩
  case round =>
    obtain ⟨k, hk, rfl, rfl, HJ⟩ := hrel
    by_cases hlt : k < n
    · rcases H3.out with h0 | ⟨b1, o1, rfl, hcell⟩
      · omega
      have hx : its[k]? = some (its[k]'(by omega)) := by simp
      obtain ⟨x, hxx⟩ : ∃ x, its[k]? = some x := ⟨_, hx⟩
      have hck := (hcell k x hxx).1
      have HX : Hid (its[k]? = some x) := hxx
      have kk : (k : Int) < (n : Int) := by omega
      clear hcell hx hxx
      by_cases he : x.k = key
      · go_wp2
        go_ret
        refine ⟨?_, rfl⟩
        rw [hiOf_at HX.out he HJ.out]
        rfl
      · have hes := str_ne he
        go_wp2
        go_roundw
        case rel =>
          refine ⟨k + 1, by omega, by go_num, by first | rfl | trivial, ?_⟩
          intro j y hj hy
          by_cases hjk : j < k
          · exact HJ.out j y hjk hy
          · obtain rfl : j = k := by omega
            rw [HX.out] at hy
            cases hy
            exact he
        case measure => simp [intOf]; omega
    · obtain rfl : k = n := by omega
      go_wp2
      go_ret
      refine ⟨?_, rfl⟩
      rw [hiOf_none (fun j y hj => HJ.out j y (by omega))]
      rfl

end Go.Proofs.YbulkdywgDoor
