/-
  Seat b6277aF: the comparison of two spans.
-/
import Derived.Test.YbulkdyyyFmtFind
import Derived.Shelf.SlSortCmp.WholeK
namespace Go.Proofs.YbulkdyyyFmt
open Go.RowKit Go.Sort Go.Shelf
set_option linter.unusedVariables false

def cmpI (x y : Int) : Int := if x < y then -1 else if y < x then 1 else 0

theorem nan64_any (x : Int) (w : World) : Calls Ybaf.prog 54 #[.int .u64 x] w fun e w' => e = .returned (.bool false) ∧ w' = w := by
  go_enter Ybaf.func54, Ybaf.ntmps54
  go_wp2
  go_ret
  exact ⟨rfl, rfl⟩
theorem nan32_any (x : Int) (w : World) : Calls Ybaf.prog 55 #[.int .u32 x] w fun e w' => e = .returned (.bool false) ∧ w' = w := by
  go_enter Ybaf.func55, Ybaf.ntmps55
  go_wp2
  go_ret
  exact ⟨rfl, rfl⟩

theorem cmp64_any (x y : Int) (w : World) : Calls Ybaf.prog 39 #[.int .u64 x, .int .u64 y] w fun e w' => e = .returned (.int .i64 (cmpI x y)) ∧ w' = w := by
  unfold cmpI
  by_cases h1 : x < y
  · rw [if_pos h1]
    go_enter Ybaf.func39, Ybaf.ntmps39
    go_wp2
    go_ret
    exact ⟨rfl, rfl⟩
  · rw [if_neg h1]
    by_cases h2 : y < x
    · rw [if_pos h2]
      go_enter Ybaf.func39, Ybaf.ntmps39
      go_wp2
      go_ret
      exact ⟨rfl, rfl⟩
    · rw [if_neg h2]
      go_enter Ybaf.func39, Ybaf.ntmps39
      go_wp2
      go_ret
      exact ⟨rfl, rfl⟩
theorem cmp32_any (x y : Int) (w : World) : Calls Ybaf.prog 40 #[.int .u32 x, .int .u32 y] w fun e w' => e = .returned (.int .i64 (cmpI x y)) ∧ w' = w := by
  unfold cmpI
  by_cases h1 : x < y
  · rw [if_pos h1]
    go_enter Ybaf.func40, Ybaf.ntmps40
    go_wp2
    go_ret
    exact ⟨rfl, rfl⟩
  · rw [if_neg h1]
    by_cases h2 : y < x
    · rw [if_pos h2]
      go_enter Ybaf.func40, Ybaf.ntmps40
      go_wp2
      go_ret
      exact ⟨rfl, rfl⟩
    · rw [if_neg h2]
      go_enter Ybaf.func40, Ybaf.ntmps40
      go_wp2
      go_ret
      exact ⟨rfl, rfl⟩

def orI (x y : Int) : Int := if x = 0 then y else x

set_option maxHeartbeats 1000000 in
theorem or_any (b : Nat) (x y : Int) (w : World) (h0 : w.cell? ⟨b, 0, none⟩ = some (.int .i64 x)) (h1 : w.cell? ⟨b, 1, none⟩ = some (.int .i64 y)) :
    Calls Ybaf.prog 38 #[.slice (some ⟨b, 0, none⟩) 2 2] w fun e w' => e = .returned (.int .i64 (orI x y)) ∧ w' = w := by
  unfold orI
  go_enter Ybaf.func38, Ybaf.ntmps38
  go_wp2
  go_loopw [5, 8] (fun _ i wr => ∃ k : Nat, k ≤ 2 ∧ i = .int .i64 k ∧ wr = w ∧ (0 < k → x = 0) ∧ (1 < k → y = 0)) (fun _ i _ => 2 - (intOf i).toNat)
  case atStart => exact ⟨0, by omega, rfl, rfl, fun h => by omega, fun h => by omega⟩
  case round =>
    obtain ⟨k, hk, rfl, rfl, hx, hy⟩ := hrel
    have hk3 : k = 0 ∨ k = 1 ∨ k = 2 := by omega
    rcases hk3 with rfl | rfl | rfl
    · clear hx hy
      by_cases hx : x = 0
      · subst hx
        go_wp2
        go_roundw
        case rel => exact ⟨1, by omega, rfl, by first | rfl | trivial, fun _ => by first | rfl | trivial, fun h => by omega⟩
        case measure => simp [intOf]
      · have hxe : (x == 0) = false := by simpa using hx
        go_wp2
        go_ret
        exact ⟨rfl, rfl⟩
    · obtain rfl := hx (by omega)
      clear hx hy
      by_cases hy : y = 0
      · subst hy
        go_wp2
        go_roundw
        case rel => exact ⟨2, by omega, rfl, by first | rfl | trivial, fun _ => by first | rfl | trivial, fun _ => by first | rfl | trivial⟩
        case measure => simp [intOf]
      · have hye : (y == 0) = false := by simpa using hy
        go_wp2
        go_ret
        exact ⟨rfl, rfl⟩
    · obtain rfl := hx (by omega)
      obtain rfl := hy (by omega)
      go_wp2
      go_ret
      exact ⟨rfl, rfl⟩

/-- A span. -/
abbrev Sn := Int × Int × Int
abbrev Sn.site (x : Sn) : Int := x.1
abbrev Sn.first (x : Sn) : Int := x.2.1
abbrev Sn.last (x : Sn) : Int := x.2.2
def Sn.cells (x : Sn) : List Value := [.int .u64 x.site, .int .u32 x.first, .int .u32 x.last]
theorem sn_len (x : Sn) : x.cells.length = 3 := rfl
theorem sn_one (x : Sn) : ∀ u ∈ x.cells, u.oneCell' = true := by simp [Sn.cells]; exact ⟨rfl, rfl, rfl⟩

/-- By site, then by first value. -/
def cmpS (x y : Sn) : Int := orI (cmpI x.site y.site) (cmpI x.first y.first)

theorem three_allocs (w : World) (a b c : Obj) : (((w.alloc a).alloc b).alloc c).drew = grow (w.drewN 1) ((#[a] ++ #[b]) ++ #[c]) := by
  rw [alloc_eq_grow _ c, alloc_eq_grow _ b, alloc_eq_grow, grow_grow, grow_grow, drew_grow, Array.append_assoc]
  rfl

set_option maxRecDepth 100000 in
set_option maxHeartbeats 4000000 in
theorem span_any (x y : Sn) (w : World) :
    Calls Ybaf.prog 37 #[.agg #[.int .u64 x.site, .int .u32 x.first, .int .u32 x.last], .agg #[.int .u64 y.site, .int .u32 y.first, .int .u32 y.last]] w fun e w' => e = .returned (.int .i64 (cmpS x y)) ∧ ∃ q os', w' = grow (w.drewN q) os' := by
  go_enter Ybaf.func37, Ybaf.ntmps37
  go_wp2_with fail
  obtain ⟨W, hW⟩ : ∃ W, (w.alloc (.cells #[.int .u64 x.site, .int .u32 x.first, .int .u32 x.last] 81)).alloc (.cells #[.int .u64 y.site, .int .u32 y.first, .int .u32 y.last] 81) = W := ⟨_, rfl⟩
  have hka : Kept (fun _ => False) w W := by rw [← hW]; exact ((Kept.refl _ w).alloc _).alloc _
  have hb1 : Blk W w.heap.size #[.int .u64 x.site, .int .u32 x.first, .int .u32 x.last] := by rw [← hW]; exact (Blk.new w _ 81).alloc _
  have hb2 : Blk W (w.heap.size + 1) #[.int .u64 y.site, .int .u32 y.first, .int .u32 y.last] := by
    rw [← hW]
    have := Blk.new (w.alloc (.cells #[.int .u64 x.site, .int .u32 x.first, .int .u32 x.last] 81)) #[.int .u64 y.site, .int .u32 y.first, .int .u32 y.last] 81
    simpa using this
  rw [hW]
  have x0 : W.cell? ⟨w.heap.size, 0, none⟩ = some (.int .u64 x.site) := hb1.cell 0
  have x1 : W.cell? ⟨w.heap.size, 1, none⟩ = some (.int .u32 x.first) := hb1.cell 1
  have y0 : W.cell? ⟨w.heap.size + 1, 0, none⟩ = some (.int .u64 y.site) := hb2.cell 0
  have y1 : W.cell? ⟨w.heap.size + 1, 1, none⟩ = some (.int .u32 y.first) := hb2.cell 1
  have HKA : Hid (Kept (fun _ => False) w W) := hka
  have hl : w.heap.size + 1 < W.heap.size := hb2.lt
  have HW : Hid (_ = W) := hW
  clear hW hka hb1 hb2
  go_region_held3 (fun w' => w'.cell? ⟨w.heap.size, 0, none⟩ = some (.int .u64 x.site) ∧ w'.cell? ⟨w.heap.size, 1, none⟩ = some (.int .u32 x.first) ∧ w'.cell? ⟨w.heap.size + 1, 0, none⟩ = some (.int .u64 y.site) ∧ w'.cell? ⟨w.heap.size + 1, 1, none⟩ = some (.int .u32 y.first)) (go_keep) (first
    | (go_at_call 39; refine (cmp64_any x.site y.site _).mono ?_; rintro e w1 ⟨rfl, rfl⟩)
    | (go_at_call 40; refine (cmp32_any x.first y.first _).mono ?_; rintro e w1 ⟨rfl, rfl⟩)
    | (go_at_call 38; refine (or_any W.heap.size (cmpI x.site y.site) (cmpI x.first y.first) _ (by simp) (by simp)).mono ?_; rintro e w1 ⟨rfl, rfl⟩)
    | fail)
  all_goals
    go_wp2_with fail
    go_ret
    refine ⟨rfl, ?_⟩
    exact ⟨1, _, (congrArg (fun z => (World.alloc z _).drew) HW.out.symm).trans (three_allocs w _ _ _)⟩

theorem cmpLays37 (blk off size : Nat) (w : World) : CmpLays Ybaf.prog 37 #[] Sn.cells 3 cmpS blk off size w :=
  fun _ _ _ _ x y => span_any x y _

theorem ltS (x y : Sn) : ltOf cmpS x y = decide (x.site < y.site ∨ (x.site = y.site ∧ x.first < y.first)) := by
  unfold ltOf cmpS orI cmpI
  by_cases h1 : x.site < y.site
  · simp [h1]
  · by_cases h2 : y.site < x.site
    · have h3 : ¬ x.site = y.site := by omega
      simp [h1, h2, h3]
    · have h3 : x.site = y.site := by omega
      by_cases h4 : x.first < y.first
      · simp [h3, h4]
      · by_cases h5 : y.first < x.first <;> simp [h3, h4, h5]

theorem swoS : SWO (ltOf cmpS) where
  irrefl x := by rw [ltS]; simp
  trans x y z h1 h2 := by rw [ltS] at *; simp at *; omega
  ntrans x y z h1 h2 := by rw [ltS] at *; simp at *; omega

end Go.Proofs.YbulkdyyyFmt
