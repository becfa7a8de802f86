/-
  Seat b6277aF: zzs6277cknown, Document.Len.
-/
import Derived.Test.YbulkdyyyFmtRM
namespace Go.Proofs.YbulkdyyyFmt
open Go.RowKit Go.Sort Go.Shelf
set_option linter.unusedVariables false
set_option linter.unnecessarySimpa false

theorem doclen_any (db : Nat) (n : Int) (w : World) (h : w.cell? ⟨db, 20, none⟩ = some (.int .i64 n)) : Calls Ybaf.prog 15 #[.pointer (some ⟨db, 0, none⟩)] w fun e w' => e = .returned (.int .i64 n) ∧ w' = w := by
  go_enter Ybaf.func15, Ybaf.ntmps15
  go_wp2
  go_ret
  exact ⟨rfl, rfl⟩

set_option maxHeartbeats 2000000 in
theorem known_any (a : Option Addr) (n c : Nat) (xs : List Sn) (site clock : Int) (w : World) (hsp : SpAt w a xs) (hl : xs.length = n) (hn : n ≤ 4096) :
    Calls Ybaf.prog 12 #[.slice a n c, .int .u64 site, .int .u32 clock] w fun e w' => e = .returned (.bool (named xs site clock)) ∧ Kept (fun _ => False) w w' := by
  have HSP : Hid (SpAt w a xs) := hsp
  clear hsp
  go_enter Ybaf.func12, Ybaf.ntmps12
  go_wp2
  go_loopw [11] (fun i wr => ∃ k : Nat, k ≤ n ∧ i = .int .i64 k ∧ Hid (named (xs.take k) site clock = false ∧ Kept (fun _ => False) w wr)) (fun i _ => n - (intOf i).toNat)
  case atStart => exact ⟨0, Nat.zero_le _, rfl, by simp [named], Kept.refl _ _⟩
  case round =>
    obtain ⟨k, hkn, rfl, HI⟩ := hrel
    by_cases hlt : k < n
    · obtain ⟨s, hs⟩ : ∃ s, xs[k]? = some s := ⟨xs[k]'(by omega), by simp⟩
      have hne : xs ≠ [] := by rintro rfl; simp at hs
      rcases HSP.out with h0 | ⟨b, o, rfl, hcs⟩
      · exact (hne h0).elim
      obtain ⟨c0, c1, c2⟩ := hcs k s hs
      have hkm := HI.out.2
      replace c0 := cell_keptF hkm c0
      replace c1 := cell_keptF hkm c1
      replace c2 := cell_keptF hkm c2
      have HS1 : Hid (xs[k]? = some s) := hs
      have kk : (k : Int) < (n : Int) := by omega
      have hnm : ∀ q, (s.site = site ∧ s.first ≤ clock ∧ clock ≤ s.last ↔ q = true) → named (xs.take (k + 1)) site clock = q := fun q hq => by
        have h1 := HI.out.1
        unfold named at h1 ⊢
        rw [take_snoc HS1.out, List.any_append, h1]
        simp only [List.any_cons, List.any_nil, Bool.or_false, Bool.false_or]
        rw [Bool.eq_iff_iff, decide_eq_true_iff]
        exact hq
      have HNM : Hid _ := hnm
      clear hs hne hcs hkm hnm
      by_cases d0 : s.site = site
      · have e0 : (s.site == site) = true := by simpa using d0
        by_cases d1 : s.first ≤ clock
        · have e1 : decide (s.first ≤ clock) = true := by simpa using d1
          by_cases d2 : clock ≤ s.last
          · have e2 : decide (clock ≤ s.last) = true := by simpa using d2
            go_wp2
            go_ret
            refine ⟨?_, HI.out.2.alloc _⟩
            have hq := HNM.out true (by simp [d0, d1, d2])
            have : named xs site clock = true := by
              unfold named at hq ⊢
              rw [List.any_eq_true] at hq ⊢
              obtain ⟨q, hq1, hq2⟩ := hq
              exact ⟨q, List.mem_of_mem_take hq1, hq2⟩
            rw [this]
            rfl
          · have e2 : decide (clock ≤ s.last) = false := by simpa using d2
            go_wp2
            exact ⟨⟨k + 1, by omega, by go_num, HNM.out false (by simp [d2]), HI.out.2.alloc _⟩, by simp [intOf]; omega⟩
        · have e1 : decide (s.first ≤ clock) = false := by simpa using d1
          go_wp2
          exact ⟨⟨k + 1, by omega, by go_num, HNM.out false (by simp [d1]), HI.out.2.alloc _⟩, by simp [intOf]; omega⟩
      · have e0 : (s.site == site) = false := by simpa using d0
        go_wp2
        exact ⟨⟨k + 1, by omega, by go_num, HNM.out false (by simp [d0]), HI.out.2.alloc _⟩, by simp [intOf]; omega⟩
    · obtain rfl : n = k := by omega
      go_wp2
      go_ret
      have h1 := HI.out.1
      rw [List.take_of_length_le (by omega)] at h1
      rw [h1]
      exact ⟨rfl, HI.out.2⟩

end Go.Proofs.YbulkdyyyFmt
