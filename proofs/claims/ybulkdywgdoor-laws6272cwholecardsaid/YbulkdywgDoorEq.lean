/-
  Seat b6272aD: slices.Equal and slices.Clone at the law's rows; the small functions.
-/
import Derived.Test.YbulkdywgDoorBox
import Derived.Lib.SliceRun
namespace Go.Proofs.YbulkdywgDoor
open Go.RowKit
set_option linter.unusedVariables false
set_option maxRecDepth 100000

set_option maxHeartbeats 1000000 in
theorem equalI_any (a a' : Option Addr) (n c c' : Nat) (its : List It) (w : World) (h : Items w a n its) (h' : Items w a' n its) :
    Calls Ybad.prog 14 #[.slice a n c, .slice a' n c'] w fun e w' => e = .returned (.bool true) ∧ ∃ q, w' = w.drewN q := by
  obtain ⟨h1, h2, h3⟩ := h
  obtain ⟨h1', h2', h3'⟩ := h'
  have H3 : Hid _ := h3
  have H3' : Hid _ := h3'
  clear h3 h3'
  go_enter Ybad.func14, Ybad.ntmps14
  go_wp2
  go_loopw [13] (fun i wr => ∃ k : Nat, k ≤ n ∧ i = .int .i64 k ∧ ∃ z, wr = w.drewN z) (fun i _ => n - (intOf i).toNat)
  case atStart => exact ⟨0, Nat.zero_le _, rfl, 0, rfl⟩
  case round =>
    obtain ⟨k, hk, rfl, z, rfl⟩ := hrel
    by_cases hlt : k < n
    · rcases H3.out with h0 | ⟨b1, o1, rfl, hcell⟩
      · omega
      rcases H3'.out with h0 | ⟨b2, o2, rfl, hcell'⟩
      · omega
      have hx : its[k]? = some (its[k]'(by omega)) := by simp
      obtain ⟨x, hxx⟩ : ∃ x, its[k]? = some x := ⟨_, hx⟩
      obtain ⟨p0, p1, p2, p3⟩ := hcell k x hxx
      obtain ⟨q0, q1, q2, q3⟩ := hcell' k x hxx
      have kk : (k : Int) < (n : Int) := by omega
      clear hcell hcell' hx hxx
      go_wp2
      go_quiet (fail)
      go_wp2
      go_roundw
      case rel => exact ⟨k + 1, by omega, by go_num, _, rfl⟩
      case measure => simp [intOf]; omega
    · obtain rfl : k = n := by omega
      go_wp2
      go_ret
      exact ⟨rfl, _, rfl⟩

set_option maxHeartbeats 1000000 in
theorem equalR_any (a a' : Option Addr) (n c c' : Nat) (its : List Rs) (w : World) (h : Ress w a n its) (h' : Ress w a' n its) :
    Calls Ybad.prog 15 #[.slice a n c, .slice a' n c'] w fun e w' => e = .returned (.bool true) ∧ ∃ q, w' = w.drewN q := by
  obtain ⟨h1, h2, h3⟩ := h
  obtain ⟨h1', h2', h3'⟩ := h'
  have H3 : Hid _ := h3
  have H3' : Hid _ := h3'
  clear h3 h3'
  go_enter Ybad.func15, Ybad.ntmps15
  go_wp2
  go_loopw [13] (fun i wr => ∃ k : Nat, k ≤ n ∧ i = .int .i64 k ∧ ∃ z, wr = w.drewN z) (fun i _ => n - (intOf i).toNat)
  case atStart => exact ⟨0, Nat.zero_le _, rfl, 0, rfl⟩
  case round =>
    obtain ⟨k, hk, rfl, z, rfl⟩ := hrel
    by_cases hlt : k < n
    · rcases H3.out with h0 | ⟨b1, o1, rfl, hcell⟩
      · omega
      rcases H3'.out with h0 | ⟨b2, o2, rfl, hcell'⟩
      · omega
      have hx : its[k]? = some (its[k]'(by omega)) := by simp
      obtain ⟨x, hxx⟩ : ∃ x, its[k]? = some x := ⟨_, hx⟩
      obtain ⟨p0, p1, p2⟩ := hcell k x hxx
      obtain ⟨q0, q1, q2⟩ := hcell' k x hxx
      have kk : (k : Int) < (n : Int) := by omega
      clear hcell hcell' hx hxx
      go_wp2
      go_quiet (fail)
      go_wp2
      go_roundw
      case rel => exact ⟨k + 1, by omega, by go_num, _, rfl⟩
      case measure => simp [intOf]; omega
    · obtain rfl : k = n := by omega
      go_wp2
      go_ret
      exact ⟨rfl, _, rfl⟩

/-- 'zzs6272cop'. -/
theorem op_any (o q : Int) (w : World) (hq : 0 ≤ q) :
    Calls Ybad.prog 4 #[.int .i32 o, .int .u32 q] w fun e w' => e = .returned (opV (o % 4) (q % 4)) ∧ Kept (fun _ => False) w w' := by
  go_enter Ybad.func4, Ybad.ntmps4
  go_wp2
  refine bodyPost_ret (v := opV (o % 4) (q % 4)) (by simp [results, Ybad.results4, go_sem]; try rfl) rfl ?_
  exact ⟨rfl, (Kept.refl _ w).alloc _⟩

theorem creply_any (k : Int) (w : World) :
    Calls Ybad.prog 8 #[.int .u8 k] w fun e w' => e = .returned (.int .u8 (if k = 1 then 3 else if k = 2 then 4 else if k = 10 then 11 else 0)) ∧ w' = w := by
  by_cases h1 : k = 1
  · subst h1
    go_enter Ybad.func8, Ybad.ntmps8
    go_wp2
    go_ret
    exact ⟨rfl, rfl⟩
  · by_cases h2 : k = 2
    · subst h2
      go_enter Ybad.func8, Ybad.ntmps8
      go_wp2
      go_ret
      exact ⟨rfl, rfl⟩
    · by_cases h3 : k = 10
      · subst h3
        go_enter Ybad.func8, Ybad.ntmps8
        go_wp2
        go_ret
        exact ⟨rfl, rfl⟩
      · rw [if_neg h1, if_neg h2, if_neg h3]
        go_enter Ybad.func8, Ybad.ntmps8
        go_wp2
        go_ret
        exact ⟨rfl, rfl⟩


set_option maxHeartbeats 1000000 in
theorem cloneI_any (a : Option Addr) (n c : Nat) (its : List It) (w : World) (h : Row It.cells 4 w a n c its) (hn : n ≤ 10000) :
    Calls Ybad.prog 5 #[.slice a n c] w fun e w' => ∃ a' c', e = .returned (.slice a' n c') ∧ Row It.cells 4 w' a' n c' its ∧ Kept (fun _ => False) w w' ∧ ∀ b, blkOf a' = some b → w.heap.size ≤ b := by
  have hnil := fun (w : World) a n c => Lib.run_eql_slice_nil (P := Ybad.prog) w 30 37 a n c 0 0 und30
  have hsm := h.small
  have HR : Hid (Row It.cells 4 w a n c its) := h
  rcases h.row with ⟨rfl, h0⟩ | ⟨b, o, cs, rfl, hb, _⟩
  · have hn0 : n = 0 := by have := h.le; omega
    subst hn0
    subst h0
    clear h
    go_enter Ybad.func5, Ybad.ntmps5
    go_wp2
    go_ret
    exact ⟨none, 0, rfl, HR.out, Kept.refl _ w, by simp [blkOf]⟩
  · have hrow := h
    have hdrop := h.dropCells it_len 0 (Nat.zero_le _)
    simp only [List.drop_zero, Nat.zero_mul, Nat.add_zero] at hdrop
    have hlt := hb.lt
    have HD : Hid (∀ j u, (its.flatMap It.cells)[j]? = some u → (w.alloc (.cells #[] 37)).cell? ((⟨b, o, none⟩ : Addr).add j) = some u) := fun j u hu => by
      rw [Addr.add_lit, World.cell?_alloc_lt w _ ⟨b, o + j, none⟩ hlt]
      have := hdrop j u hu
      rwa [Addr.add_lit] at this
    have HE : Hid (Row It.cells 4 (w.alloc (.cells #[] 37)) (some ⟨w.heap.size, 0, none⟩) 0 0 ([] : List It)) := ⟨rfl, by omega, by omega, by simp [maxLen], by omega, by simp, .inr ⟨w.heap.size, 0, #[], rfl, ⟨37, heap_alloc_new w _⟩, by simp, by simp⟩⟩
    have hl := h.len
    obtain ⟨i0, hi0, hz0, hz1, hz2⟩ := info_parts info37
    clear h hrow hdrop hb
    go_enter Ybad.func5, Ybad.ntmps5
    go_wp2_with (at_builtin; refine wpList_append_row _ rfl (.tmp 5) (.tmp 6) 30 rfl it_len it_one 37 i0 (.agg #[.string ⟨#[]⟩, .string ⟨#[]⟩, .int .u64 0, .int .i32 0]) 48 und30 hi0 hz0 hz1 hz2 rfl (some ⟨w.heap.size, 0, none⟩) 0 0 [] rfl HE.out ⟨b, o, none⟩ n c its rfl hl HD.out (by omega) (by omega) ?_; intro a5 c5 w5 hrow hgrow hnew hnone; have HRW : Hid _ := hrow; have HGW : Hid _ := hgrow; have HNW : Hid _ := hnew; clear hrow hgrow hnew hnone)
    go_ret
    simp only [Nat.zero_add, List.nil_append] at HRW ⊢
    have hg := HGW.out
    refine ⟨a5, c5, rfl, HRW.out, ⟨hg.os, hg.tape, hg.output, Nat.le_trans (by simp) hg.size, fun k hk _ => (hg.block k (by simp; omega) (by simp [blkOf]; omega)).trans (Below.heap_alloc _ _ _ hk)⟩, fun b' hb' => ?_⟩
    rcases HNW.out b' hb' with h1 | h1
    · simp [blkOf] at h1; omega
    · simp at h1; omega

set_option maxHeartbeats 1000000 in
theorem cloneR_any (a : Option Addr) (n c : Nat) (its : List Rs) (w : World) (h : Row Rs.cells 3 w a n c its) (hn : n ≤ 10000) :
    Calls Ybad.prog 6 #[.slice a n c] w fun e w' => ∃ a' c', e = .returned (.slice a' n c') ∧ Row Rs.cells 3 w' a' n c' its ∧ Kept (fun _ => False) w w' ∧ ∀ b, blkOf a' = some b → w.heap.size ≤ b := by
  have hnil := fun (w : World) a n c => Lib.run_eql_slice_nil (P := Ybad.prog) w 48 51 a n c 0 0 und48
  have hsm := h.small
  have HR : Hid (Row Rs.cells 3 w a n c its) := h
  rcases h.row with ⟨rfl, h0⟩ | ⟨b, o, cs, rfl, hb, _⟩
  · have hn0 : n = 0 := by have := h.le; omega
    subst hn0
    subst h0
    clear h
    go_enter Ybad.func6, Ybad.ntmps6
    go_wp2
    go_ret
    exact ⟨none, 0, rfl, HR.out, Kept.refl _ w, by simp [blkOf]⟩
  · have hrow := h
    have hdrop := h.dropCells rs_len 0 (Nat.zero_le _)
    simp only [List.drop_zero, Nat.zero_mul, Nat.add_zero] at hdrop
    have hlt := hb.lt
    have HD : Hid (∀ j u, (its.flatMap Rs.cells)[j]? = some u → (w.alloc (.cells #[] 51)).cell? ((⟨b, o, none⟩ : Addr).add j) = some u) := fun j u hu => by
      rw [Addr.add_lit, World.cell?_alloc_lt w _ ⟨b, o + j, none⟩ hlt]
      have := hdrop j u hu
      rwa [Addr.add_lit] at this
    have HE : Hid (Row Rs.cells 3 (w.alloc (.cells #[] 51)) (some ⟨w.heap.size, 0, none⟩) 0 0 ([] : List Rs)) := ⟨rfl, by omega, by omega, by simp [maxLen], by omega, by simp, .inr ⟨w.heap.size, 0, #[], rfl, ⟨51, heap_alloc_new w _⟩, by simp, by simp⟩⟩
    have hl := h.len
    obtain ⟨i0, hi0, hz0, hz1, hz2⟩ := info_parts info51
    clear h hrow hdrop hb
    go_enter Ybad.func6, Ybad.ntmps6
    go_wp2_with (at_builtin; refine wpList_append_row _ rfl (.tmp 5) (.tmp 6) 48 rfl rs_len rs_one 51 i0 (.agg #[.int .i32 0, .int .u32 0, .int .i64 0]) 16 und48 hi0 hz0 hz1 hz2 rfl (some ⟨w.heap.size, 0, none⟩) 0 0 [] rfl HE.out ⟨b, o, none⟩ n c its rfl hl HD.out (by omega) (by omega) ?_; intro a5 c5 w5 hrow hgrow hnew hnone; have HRW : Hid _ := hrow; have HGW : Hid _ := hgrow; have HNW : Hid _ := hnew; clear hrow hgrow hnew hnone)
    go_ret
    simp only [Nat.zero_add, List.nil_append] at HRW ⊢
    have hg := HGW.out
    refine ⟨a5, c5, rfl, HRW.out, ⟨hg.os, hg.tape, hg.output, Nat.le_trans (by simp) hg.size, fun k hk _ => (hg.block k (by simp; omega) (by simp [blkOf]; omega)).trans (Below.heap_alloc _ _ _ hk)⟩, fun b' hb' => ?_⟩
    rcases HNW.out b' hb' with h1 | h1
    · simp [blkOf] at h1; omega
    · simp at h1; omega

set_option maxHeartbeats 1000000 in
theorem cloneP_any (a : Option Addr) (n c : Nat) (its : List Pr) (w : World) (h : Row Pr.cells 3 w a n c its) (hn : n ≤ 10000) :
    Calls Ybad.prog 7 #[.slice a n c] w fun e w' => ∃ a' c', e = .returned (.slice a' n c') ∧ Row Pr.cells 3 w' a' n c' its ∧ Kept (fun _ => False) w w' ∧ ∀ b, blkOf a' = some b → w.heap.size ≤ b := by
  have hnil := fun (w : World) a n c => Lib.run_eql_slice_nil (P := Ybad.prog) w 38 47 a n c 0 0 und38
  have hsm := h.small
  have HR : Hid (Row Pr.cells 3 w a n c its) := h
  rcases h.row with ⟨rfl, h0⟩ | ⟨b, o, cs, rfl, hb, _⟩
  · have hn0 : n = 0 := by have := h.le; omega
    subst hn0
    subst h0
    clear h
    go_enter Ybad.func7, Ybad.ntmps7
    go_wp2
    go_ret
    exact ⟨none, 0, rfl, HR.out, Kept.refl _ w, by simp [blkOf]⟩
  · have hrow := h
    have hdrop := h.dropCells pr_len 0 (Nat.zero_le _)
    simp only [List.drop_zero, Nat.zero_mul, Nat.add_zero] at hdrop
    have hlt := hb.lt
    have HD : Hid (∀ j u, (its.flatMap Pr.cells)[j]? = some u → (w.alloc (.cells #[] 47)).cell? ((⟨b, o, none⟩ : Addr).add j) = some u) := fun j u hu => by
      rw [Addr.add_lit, World.cell?_alloc_lt w _ ⟨b, o + j, none⟩ hlt]
      have := hdrop j u hu
      rwa [Addr.add_lit] at this
    have HE : Hid (Row Pr.cells 3 (w.alloc (.cells #[] 47)) (some ⟨w.heap.size, 0, none⟩) 0 0 ([] : List Pr)) := ⟨rfl, by omega, by omega, by simp [maxLen], by omega, by simp, .inr ⟨w.heap.size, 0, #[], rfl, ⟨47, heap_alloc_new w _⟩, by simp, by simp⟩⟩
    have hl := h.len
    obtain ⟨i0, hi0, hz0, hz1, hz2⟩ := info_parts info47
    clear h hrow hdrop hb
    go_enter Ybad.func7, Ybad.ntmps7
    go_wp2_with (at_builtin; refine wpList_append_row _ rfl (.tmp 5) (.tmp 6) 38 rfl pr_len pr_one 47 i0 (.agg #[.int .i32 0, .int .u32 0, .string ⟨#[]⟩]) 24 und38 hi0 hz0 hz1 hz2 rfl (some ⟨w.heap.size, 0, none⟩) 0 0 [] rfl HE.out ⟨b, o, none⟩ n c its rfl hl HD.out (by omega) (by omega) ?_; intro a5 c5 w5 hrow hgrow hnew hnone; have HRW : Hid _ := hrow; have HGW : Hid _ := hgrow; have HNW : Hid _ := hnew; clear hrow hgrow hnew hnone)
    go_ret
    simp only [Nat.zero_add, List.nil_append] at HRW ⊢
    have hg := HGW.out
    refine ⟨a5, c5, rfl, HRW.out, ⟨hg.os, hg.tape, hg.output, Nat.le_trans (by simp) hg.size, fun k hk _ => (hg.block k (by simp; omega) (by simp [blkOf]; omega)).trans (Below.heap_alloc _ _ _ hk)⟩, fun b' hb' => ?_⟩
    rcases HNW.out b' hb' with h1 | h1
    · simp [blkOf] at h1; omega
    · simp at h1; omega

end Go.Proofs.YbulkdywgDoor
