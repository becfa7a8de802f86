/-
  Seat b6277aF: parts, ranges.
-/
import Derived.Test.YbulkdyyyFmtRound
import Derived.Test.YbulkdyyyFmtFind
namespace Go.Proofs.YbulkdyyyFmt
open Go.RowKit Go.Shelf
set_option linter.unusedVariables false
attribute [local go_sem] Oper.semAt_some
attribute [local go_sem] wide_fn wide_depth

def partsOf (n : Nat) : Nat := (n + 63) / 64

theorem parts_any (n : Nat) (hn : n ≤ 1000000) (w : World) : Calls Ybaf.prog 20 #[.int .i64 n] w fun e w' => e = .returned (.int .i64 (partsOf n : Nat)) ∧ w' = w := by
  go_enter Ybaf.func20, Ybaf.ntmps20
  go_wp2
  go_ret
  have hh : ((partsOf n : Nat) : Int) = ((n : Int) + 63) / 64 := by unfold partsOf; omega
  rw [hh]
  refine ⟨congrArg Ending.returned (congrArg (Value.int .i64) ?_), rfl⟩
  omega

theorem ranges_any (n : Int) (w : World) : Calls Ybaf.prog 21 #[.int .i64 n] w fun e w' => e = .returned (.func (.func 33) #[] #[.pointer (some ⟨w.heap.size, 0, none⟩)]) ∧ w' = w.alloc (.cells #[.int .i64 n] 3) := by
  go_enter Ybaf.func21, Ybaf.ntmps21
  go_wp2
  go_ret
  exact ⟨rfl, rfl⟩

/-- The bounds of part k of n entries in p parts. -/
def rangeAt (n p k : Nat) : Int × Int := ((k : Int) * n / p, ((k : Int) + 1) * n / p)
def rangesOf (n p : Nat) : List (Int × Int) := (List.range p).map (rangeAt n p)
def rgEnc (x : Int × Int) : Array Value := #[.int .i64 x.1, .int .i64 x.2]

theorem ranges_pre {n p k : Nat} (hk : k < p) : (List.range k).map (rangeAt n p) ++ [rangeAt n p k] <+: rangesOf n p ∧ (List.range k).map (rangeAt n p) ++ [rangeAt n p k] = (List.range (k + 1)).map (rangeAt n p) := by
  have e : (List.range k).map (rangeAt n p) ++ [rangeAt n p k] = (List.range (k + 1)).map (rangeAt n p) := by rw [List.range_succ]; simp
  refine ⟨?_, e⟩
  rw [e]
  refine List.IsPrefix.map _ ?_
  exact ⟨(List.range (p - (k + 1))).map (fun x => k + 1 + x), by rw [← List.range_add]; congr 1; omega⟩

set_option maxRecDepth 100000 in
set_option maxHeartbeats 4000000 in
theorem ranges_iter {fb nb n : Nat} (h0 : 0 < n) (hn : n ≤ 4096) :
    Iter Ybaf.prog 33 #[.pointer (some ⟨nb, 0, none⟩)] rgEnc fb (rangesOf n (partsOf n)) (fun W => W.cell? ⟨nb, 0, none⟩ = some (.int .i64 n) ∧ nb ≠ fb ∧ boxBlk W fb ≠ some nb) := by
  rintro l J W ⟨hc, hnf, hbb⟩ hfb hJ hrow hY hs0
  obtain ⟨p, hp⟩ : ∃ p, partsOf n = p := ⟨_, rfl⟩
  rw [hp] at hY ⊢
  have hp1 : 1 ≤ p := by unfold partsOf at hp; omega
  have hp2 : p ≤ 64 := by unfold partsOf at hp; omega
  have hpc := parts_any n (by omega) W
  rw [hp] at hpc
  have HP : Hid _ := hpc
  have HJ : Hid (Steady W.heap.size J) := hJ
  have HY : Hid _ := hY
  have HS : Hid (J [] W) := hs0
  have HC : Hid (W.cell? ⟨nb, 0, none⟩ = some (.int .i64 n)) := hc
  clear hpc hJ hrow hY hs0
  refine (callsIn_wide (n := 3)).1 (callsIn_of_wp Ybaf.func33 rfl trivial ?_ rfl)
  simp only [Ybaf.ntmps33, List.size_toArray, List.length_cons, List.length_nil, Nat.reduceAdd, Nat.reduceSub, Array.replicate_succ, Array.replicate_zero, List.push_toArray, List.append_toArray, List.nil_append, List.cons_append]
  gi_wp2
  refine CallsIn.mono (callsIn_wide.2 HP.out) ?_
  rintro e w' ⟨rfl, rfl⟩
  gi_wp2
  gi_loopw [8] (fun v wr => ∃ k : Nat, k ≤ p ∧ v = .int .i64 k ∧ Hid (J ((List.range k).map (rangeAt n p)) wr ∧ Kb fb w' wr)) (fun v _ => p - (intOf v).toNat)
  case atStart => exact ⟨0, Nat.zero_le _, rfl, HS.out, Kb.refl _ _⟩
  case round =>
    obtain ⟨k, hk, rfl, HR⟩ := hrel
    have hc1 := HR.out.2.cell HC.out hnf hbb
    by_cases hlt : k < p
    · obtain ⟨hp3, hp4⟩ := ranges_pre (n := n) hlt
      obtain ⟨fn, tmps, assign, body, hy, hR⟩ := HY.out _ _ wr.drew (3 - 1) (HJ.out.drewN _ wr 1 HR.out.1) hp3
      simp only [rgEnc, rangeAt] at hy
      have HRR : Hid _ := hR
      have HP4 : Hid _ := hp4
      have kk : (k : Int) < (p : Int) := by omega
      have k1 : (k : Int) * n ≤ 1000000 := by have h1 : (k : Int) ≤ 64 := by omega
                                              have h2 : (n : Int) ≤ 4096 := by omega
                                              calc (k : Int) * n ≤ 64 * 4096 := Int.mul_le_mul h1 h2 (by omega) (by omega)
                                                _ ≤ 1000000 := by decide
      have k2 : 0 ≤ (k : Int) * n := Int.mul_nonneg (by omega) (by omega)
      have k3 : ((k : Int) + 1) * n ≤ 1000000 := by have h1 : (k : Int) + 1 ≤ 64 := by omega
                                                    have h2 : (n : Int) ≤ 4096 := by omega
                                                    calc ((k : Int) + 1) * n ≤ 64 * 4096 := Int.mul_le_mul h1 h2 (by omega) (by omega)
                                                      _ ≤ 1000000 := by decide
      have k4 : 0 ≤ ((k : Int) + 1) * n := Int.mul_nonneg (by omega) (by omega)
      have hw3 : IntKind.i64.wrap ((k : Int) * n) = (k : Int) * n := w64 (by omega) (by omega)
      have hw4 : IntKind.i64.wrap (((k : Int) * n).tdiv p) = (k : Int) * n / p := by
        rw [Int.tdiv_eq_ediv_of_nonneg k2]
        have h1 := Int.ediv_le_self (p : Int) k2
        have h2 := Int.ediv_nonneg k2 (show (0 : Int) ≤ p by omega)
        exact w64 (by omega) (by omega)
      have hw1 : IntKind.i64.wrap (((k : Int) + 1) * n) = ((k : Int) + 1) * n := w64 (by omega) (by omega)
      have hw2 : IntKind.i64.wrap ((((k : Int) + 1) * n).tdiv p) = ((k : Int) + 1) * n / p := by
        rw [Int.tdiv_eq_ediv_of_nonneg k4]
        have h1 := Int.ediv_le_self (p : Int) k4
        have h2 := Int.ediv_nonneg k4 (show (0 : Int) ≤ p by omega)
        exact w64 (by omega) (by omega)
      clear hp3 hp4 hR
      gi_wp2
      have hmix : Ybaf.prog.follows .mixedOrders = true := by kernel_rfl
      gi_region_with_o (refine RoundIn.mono HRR.out ?_; rintro e W3 ⟨rfl, hJ3, hk3⟩; have HJ3 : Hid _ := hJ3; have HK3 : Hid (Kb fb wr W3) := (Kb.refl fb wr).drew.trans hk3; clear hJ3 hk3)
      all_goals
        gi_wp2
        go_roundw
        case rel => exact ⟨k + 1, by omega, by go_num, by rw [← HP4.out]; exact HJ3.out, HR.out.2.trans HK3.out⟩
        case measure => simp [intOf]; omega
    · obtain rfl : k = p := by omega
      gi_wp2
      go_end0
      exact ⟨⟨_, rfl⟩, HR.out.1, HR.out.2⟩

end Go.Proofs.YbulkdyyyFmt
