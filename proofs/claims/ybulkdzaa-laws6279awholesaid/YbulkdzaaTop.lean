/-
  The walk of seat b6279a's law, out of its callees' contracts.
-/
import Derived.Test.YbulkdzaaWalks
namespace Go.Proofs.Ybulkdzaa
open Go.RowKit

theorem top_big (a : Option Addr) (n c : Nat) (x : Int) (w : World) (hn : 1048576 < n) (hb : n ≤ 9223372036854775807) :
    Calls Yba.prog 3 #[.slice a n c, .int .i64 x] w fun e w' => e = .returned (.bool true) ∧ Below w.heap.size w w' := by
  go_enter Yba.func3, Yba.ntmps3
  go_wp2
  go_ret
  exact ⟨rfl, Below.refl _ _⟩

theorem top_empty (a : Option Addr) (c : Nat) (x : Int) (w : World) (hc : a = none → c = 0) :
    Calls Yba.prog 3 #[.slice a 0 c, .int .i64 x] w fun e w' => e = .returned (.bool true) ∧ Below w.heap.size w w' := by
  have hclone : Calls Yba.prog 4 #[.slice a 0 c] w fun e w' => ∃ v cp, e = .returned (.slice v 0 cp) ∧ Below w.heap.size w w' := by
    cases a with
    | none =>
      obtain rfl := hc rfl
      refine (clone_nil w).mono ?_
      rintro e w' ⟨rfl, rfl⟩
      exact ⟨_, _, rfl, Below.refl _ _⟩
    | some ad =>
      refine (clone_some ad 0 c [] w (by omega) rfl (fun j hj => by omega)).mono ?_
      rintro e w' ⟨v, rfl, ho, hb⟩
      rcases ho.2 with ⟨rfl, _⟩ | ⟨g, cap, cur, rfl, _⟩
      · exact ⟨_, _, rfl, hb⟩
      · exact ⟨_, _, rfl, hb⟩
  go_enter Yba.func3, Yba.ntmps3
  go_wp2_with fail
  refine hclone.mono ?_
  rintro e w1 ⟨v, cp, rfl, hbel⟩
  by_cases hx : x = 0
  · subst hx
    go_wp2_with (first | (go_at_call 5; refine (pick_zero _ _ _ _).mono ?_; rintro e w' ⟨rfl, rfl⟩) | (go_at_call 6; refine (equal_zero _ _ _ _ _).mono ?_; rintro e w' ⟨rfl, rfl⟩))
    refine wp_loop_rounds 1 ?_; rw [rounds_succ]
    go_wp2
    go_ret
    exact ⟨rfl, hbel⟩
  · have hx' : (x == 0) = false := by simpa using hx
    go_wp2_with (first | (go_at_call 5; refine (pick_zero _ _ _ _).mono ?_; rintro e w' ⟨rfl, rfl⟩) | (go_at_call 6; refine (equal_zero _ _ _ _ _).mono ?_; rintro e w' ⟨rfl, rfl⟩))
    refine wp_loop_rounds 1 ?_; rw [rounds_succ]
    go_wp2
    go_ret
    exact ⟨rfl, hbel⟩

theorem below_drewN {B : Nat} {a w : World} (h : Below B a w) (q : Nat) : Below B a (w.drewN q) := ⟨h.os, h.tape, h.output, h.size, h.block⟩

theorem top_some (b o n c : Nat) (zs : List Int) (x : Int) (w : World) (hn : n ≤ 1048576) (h0 : 0 < n) (hz : zs.length = n)
    (h1 : ∀ j, j < n → w.cell? ⟨b, o + j, none⟩ = some (.int .i64 (zs.getD j 0))) :
    Calls Yba.prog 3 #[.slice (some ⟨b, o, none⟩) n c, .int .i64 x] w fun e w' => e = .returned (.bool true) ∧ Below w.heap.size w w' := by
  have hclone := clone_some ⟨b, o, none⟩ n c zs w hn hz (fun j hj => by rw [Addr.add_lit]; exact h1 j hj)
  have hlt : b < w.heap.size := World.block_lt_of_cell? _ _ (h1 0 h0)
  go_enter Yba.func3, Yba.ntmps3
  go_wp2_with fail
  refine hclone.mono ?_
  clear hclone
  rintro e w1 ⟨v, rfl, hown, hbel⟩
  have hv : ∃ g cp, v = .slice (some ⟨g, 0, none⟩) n cp ∧ ∀ j, j < n → w1.cell? ⟨g, 0 + j, none⟩ = some (.int .i64 (zs.getD j 0)) := by
    rcases hown.2 with ⟨_, h⟩ | ⟨g, cap, cur, rfl, _⟩
    · omega
    · refine ⟨g, cap, rfl, fun j hj => ?_⟩
      rw [Nat.zero_add, hown.cellAt j (by omega)]
      simp [hz, hj]
  obtain ⟨g, cp, rfl, h2⟩ := hv
  have h3 : ∀ j, j < n → w1.cell? ⟨b, o + j, none⟩ = some (.int .i64 (zs.getD j 0)) := fun j hj => (hbel.cell (p := ⟨b, o + j, none⟩) hlt).trans (h1 j hj)
  have hp : (x == 0) = true ∨ (x == 0) = false := by cases (x == 0) <;> simp
  clear h1 hown
  have HB : Hid (Below w.heap.size w w1) := hbel
  clear hbel
  have g3 : w1.cell? ⟨b, o, none⟩ = some (.int .i64 (zs.getD 0 0)) := h3 0 h0
  rcases hp with hp | hp
  · obtain rfl : x = 0 := by simpa using hp
    clear hp
    go_wp2_with fail
    refine (pick_default b o n c zs w1 hn h0 h3).mono ?_
    rintro e w' ⟨rfl, rfl⟩
    go_wp2_with fail
    refine (equal_same b o g 0 n c cp zs _ hn h3 h2).mono ?_
    rintro e w' ⟨rfl, q, rfl⟩
    go_wp2
    go_ret
    exact ⟨by simp, below_drewN HB.out q⟩
  · go_wp2_with fail
    refine (pick_other b o n c zs x w1 hn hp h3).mono ?_
    rintro e w' ⟨hor, hw'⟩
    subst w'
    have hor' : ∃ r : Bool, e = .returned (.tuple #[.int .i64 x, .bool r]) ∧ (r = true → firstAt zs n x) ∧ (r = false → ¬ firstAt zs n x) := by
      rcases hor with ⟨hf, rfl⟩ | ⟨hf, rfl⟩
      · exact ⟨true, rfl, fun _ => hf, fun h => by cases h⟩
      · exact ⟨false, rfl, (fun h => by cases h), fun _ => hf⟩
    clear hor
    obtain ⟨r, rfl, hrt, hrf⟩ := hor'
    have HR : Hid ((r = true → firstAt zs n x) ∧ (r = false → ¬ firstAt zs n x)) := ⟨hrt, hrf⟩
    clear hrt hrf
    go_wp2_with fail
    refine (equal_same b o g 0 n c cp zs _ hn h3 h2).mono ?_
    rintro e w' ⟨rfl, q, rfl⟩
    have H3 : Hid (∀ j, j < n → w1.cell? ⟨b, o + j, none⟩ = some (.int .i64 (zs.getD j 0))) := h3
    clear h3 h2 g3
    go_wp2
    go_loop [10, 11] (fun f i => ∃ k : Nat, k ≤ n ∧ i = .int .i64 k ∧ f = .bool false ∧ Hid (∀ j, j < k → ¬ zs.getD j 0 = x)) (fun _ i => n - (intOf i).toNat)
    case atStart => exact ⟨0, Nat.zero_le _, rfl, rfl, fun j hj => by omega⟩
    case round =>
      obtain ⟨k, hk, rfl, rfl, HN⟩ := hrel
      by_cases hkn : k < n
      · have gk := H3.out k hkn
        by_cases he : zs.getD k 0 = x
        · have hr : r = true := by
            cases r with
            | true => rfl
            | false => exact absurd ⟨k, hkn, he⟩ (HR.out.2 rfl)
          subst hr
          rw [he] at gk
          go_wp2
          go_ret
          exact ⟨rfl, below_drewN HB.out q⟩
        · have he' : (zs.getD k 0 == x) = false := by simpa using he
          generalize zs.getD k 0 = y at gk he'
          go_wp2
          go_round
          case rel =>
            refine ⟨k + 1, by omega, by go_num, rfl, fun j hj => ?_⟩
            by_cases hjk : j = k
            · subst hjk; exact he
            · exact HN.out j (by omega)
          case measure => simp [intOf]; omega
      · have hr : r = false := by
          cases r with
          | false => rfl
          | true => obtain ⟨j, hj, e⟩ := HR.out.1 rfl; exact absurd e (HN.out j (by omega))
        subst hr
        go_wp2
        go_ret
        exact ⟨rfl, below_drewN HB.out q⟩

end Go.Proofs.Ybulkdzaa
