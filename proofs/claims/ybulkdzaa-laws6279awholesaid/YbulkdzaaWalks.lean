/-
  The walks of seat b6279a: slices.Clone, pickAlgorithm[int], slices.Equal over []int.
-/
import Derived.Test.YbulkdzaaRows
import Derived.WalkKit
import Derived.WalkSpells
import Derived.WalkLawsBesides
import Derived.ProofKit
namespace Go.Proofs.Ybulkdzaa
open Go.RowKit

theorem Yba.info3 : (Yba.prog.info? 3).map (fun i => (i.zero, i.size, i.bytes)) = some (some (.int .i64 0), 1, 8) := by kernel_rfl

theorem ret_val {v v' : Value} (h : v = v') : Ending.returned v = .returned v' := by rw [h]

/-- slices.Equal over two slices whose elements agree. -/
theorem equal_zero (a b : Option Addr) (c d : Nat) (w : World) :
    Calls Yba.prog 6 #[.slice a 0 c, .slice b 0 d] w fun e w' => e = .returned (.bool true) ∧ w' = w := by
  go_enter Yba.func6, Yba.ntmps6
  go_wp2
  refine wp_loop_rounds 1 ?_; rw [rounds_succ]
  go_wp2
  go_ret
  exact ⟨rfl, rfl⟩

theorem equal_same (b1 o1 b2 o2 n c d : Nat) (zs : List Int) (w : World) (hn : n ≤ 1048576)
    (h1 : ∀ j, j < n → w.cell? ⟨b1, o1 + j, none⟩ = some (.int .i64 (zs.getD j 0)))
    (h2 : ∀ j, j < n → w.cell? ⟨b2, o2 + j, none⟩ = some (.int .i64 (zs.getD j 0))) :
    Calls Yba.prog 6 #[.slice (some ⟨b1, o1, none⟩) n c, .slice (some ⟨b2, o2, none⟩) n d] w fun e w' => e = .returned (.bool true) ∧ ∃ q, w' = w.drewN q := by
  go_enter Yba.func6, Yba.ntmps6
  go_wp2
  go_loopw [5, 13] (fun _ i wr => ∃ k q : Nat, k ≤ n ∧ i = .int .i64 k ∧ wr = w.drewN q) (fun _ i _ => n - (intOf i).toNat)
  case atStart => exact ⟨0, 0, Nat.zero_le _, rfl, rfl⟩
  case round =>
    obtain ⟨k, q, hk, rfl, rfl⟩ := hrel
    by_cases hlt : k < n
    · have g1 := h1 k hlt
      have g2 := h2 k hlt
      go_wp2
      go_region
      go_wp2
      go_roundw
      case rel => exact ⟨k + 1, q + 1, by omega, by go_num, rfl⟩
      case measure => simp [intOf]; omega
    · go_wp2
      go_ret
      exact ⟨rfl, q, rfl⟩

/-- slices.Clone of a slice that is not nil: the same elements in memory of the call's own. -/
theorem clone_nil (w : World) :
    Calls Yba.prog 4 #[.slice none 0 0] w fun e w' => e = .returned (.slice none 0 0) ∧ w' = w := by
  have hnil := fun (w : World) a n c => Lib.run_eql_slice_nil (P := Yba.prog) w 22 3 a n c 0 0 Yba.underlying22
  go_enter Yba.func4, Yba.ntmps4
  go_wp2
  go_ret
  exact ⟨rfl, rfl⟩

theorem clone_some (x : Addr) (n c : Nat) (zs : List Int) (w : World) (hn : n ≤ 1048576) (hz : zs.length = n)
    (h1 : ∀ j, j < n → w.cell? (x.add j) = some (.int .i64 (zs.getD j 0))) :
    Calls Yba.prog 4 #[.slice (some x) n c] w fun e w' => ∃ v, e = .returned v ∧ w'.ownsRow w.heap.size 3 1 v n (zs.map (Value.int .i64)) ∧ Below w.heap.size w w' := by
  have hnil := fun (w : World) a n c => Lib.run_eql_slice_nil (P := Yba.prog) w 22 3 a n c 0 0 Yba.underlying22
  obtain ⟨i0, hi, hz0, hz1, hz2⟩ := info_parts Yba.info3
  go_enter Yba.func4, Yba.ntmps4
  go_wp2_with (at_builtin; refine wpList_append_own _ rfl _ _ 22 rfl w.heap.size 3 i0 (.int .i64 0) 1 8 Yba.underlying22 hi hz0 hz1 hz2 rfl (by decide) _ 0 [] rfl (World.ownsRow_made w #[] 0 (Nat.le_refl _) (Nat.zero_le _) rfl) x n c (zs.map (Value.int .i64)) rfl ?c1 ?c2 ?c3 ?c4 ?c5 ?c6 ?_)
  case c1 => simp [hz]
  case c2 =>
    intro j u hu
    have hj : j < n := by have := (List.getElem?_eq_some_iff.1 hu).1; simpa [hz] using this
    have hb := World.block_lt_of_cell? _ _ (h1 j hj)
    rw [World.cell?_alloc_lt _ _ _ hb, h1 j hj, ← hu]
    have hj' : j < zs.length := by omega
    simp [hj']
  case c3 => exact ints_oneCell _ _
  case c4 => unfold maxLen; omega
  case c5 => omega
  case c6 => simp
  intro v' w1 hown' hgrow _
  have hbel : Below w.heap.size w w1 := ((Below.refl _ _).alloc (Nat.le_refl _) _).grown hgrow (by simp) (by intro k hk; simp [Value.ownBlock] at hk; omega)
  go_wp2
  go_ret
  exact ⟨_, rfl, by simpa using hown', hbel⟩

/-- The first place of the first n numbers at which x stands. -/
def firstAt (zs : List Int) (n : Nat) (x : Int) : Prop := ∃ j, j < n ∧ zs.getD j 0 = x

theorem pick_zero (a : Option Addr) (c : Nat) (x : Int) (w : World) :
    Calls Yba.prog 5 #[.slice a 0 c, .int .i64 x] w fun e w' => e = .returned (.tuple #[.int .i64 x, .bool false]) ∧ w' = w := by
  go_enter Yba.func5, Yba.ntmps5
  go_wp2
  refine wp_loop_rounds 1 ?_; rw [rounds_succ]
  go_wp2
  go_ret2
  exact ⟨rfl, rfl⟩

/-- The zero value, and there is an element: the first one. -/
theorem pick_default (b o n c : Nat) (zs : List Int) (w : World) (hn : n ≤ 1048576) (h0 : 0 < n)
    (h1 : ∀ j, j < n → w.cell? ⟨b, o + j, none⟩ = some (.int .i64 (zs.getD j 0))) :
    Calls Yba.prog 5 #[.slice (some ⟨b, o, none⟩) n c, .int .i64 0] w fun e w' => e = .returned (.tuple #[.int .i64 (zs.getD 0 0), .bool true]) ∧ w' = w := by
  have g : w.cell? ⟨b, o, none⟩ = some (.int .i64 (zs.getD 0 0)) := h1 0 h0
  have h0' : (0 : Int) < (n : Int) := by omega
  go_enter Yba.func5, Yba.ntmps5
  go_wp2
  refine wp_loop_rounds 1 ?_; rw [rounds_succ]
  go_wp2
  · go_ret2
    have e : zs[0]?.getD 0 = 0 := by assumption
    exact ⟨by simp [e], rfl⟩
  · go_ret2
    exact ⟨by simp, rfl⟩

theorem pick_other (b o n c : Nat) (zs : List Int) (x : Int) (w : World) (hn : n ≤ 1048576) (hx : (x == 0) = false)
    (h1 : ∀ j, j < n → w.cell? ⟨b, o + j, none⟩ = some (.int .i64 (zs.getD j 0))) :
    Calls Yba.prog 5 #[.slice (some ⟨b, o, none⟩) n c, .int .i64 x] w fun e w' => ((firstAt zs n x ∧ e = .returned (.tuple #[.int .i64 x, .bool true])) ∨ (¬ firstAt zs n x ∧ e = .returned (.tuple #[.int .i64 x, .bool false]))) ∧ w' = w := by
  go_enter Yba.func5, Yba.ntmps5
  go_wp2
  go_loop [7, 8, 11] (fun _ _ i => ∃ k : Nat, k ≤ n ∧ i = .int .i64 k ∧ ∀ j, j < k → ¬ zs.getD j 0 = x) (fun _ _ i => n - (intOf i).toNat)
  case atStart => exact ⟨0, Nat.zero_le _, rfl, fun j hj => by omega⟩
  case round =>
    obtain ⟨k, hk, rfl, hno⟩ := hrel
    by_cases hlt : k < n
    · have g1 := h1 k hlt
      have HN : Hid (∀ j, j < k → ¬ zs.getD j 0 = x) := hno
      clear hno
      go_wp2
      · go_ret2
        have e : zs[k]?.getD 0 = x := by assumption
        exact ⟨.inl ⟨⟨k, hlt, by simpa using e⟩, rfl⟩, rfl⟩
      · have e : ¬ zs[k]?.getD 0 = x := by assumption
        go_round
        case rel =>
          refine ⟨k + 1, by omega, by go_num, fun j hj => ?_⟩
          by_cases hjk : j = k
          · subst hjk; simpa using e
          · exact HN.out j (by omega)
        case measure => simp [intOf]; omega
    · go_wp2
      go_ret2
      exact ⟨.inr ⟨fun ⟨j, hj, e⟩ => hno j (by omega) e, rfl⟩, rfl⟩

end Go.Proofs.Ybulkdzaa
