/-
  Seat b6277aF: slices.Values.
-/
import Derived.Test.YbulkdyyyFmtRound
import Derived.Test.YbulkdyyyFmtCmp
namespace Go.Proofs.YbulkdyyyFmt
open Go.RowKit Go.Shelf
set_option linter.unusedVariables false
attribute [local go_sem] Oper.semAt_some
attribute [local go_sem] wide_fn wide_depth

/-- Spans that lie somewhere. -/
def SpAt (W : World) (a : Option Addr) (xs : List Sn) : Prop :=
  xs = [] ∨ ∃ b o, a = some ⟨b, o, none⟩ ∧ ∀ i x, xs[i]? = some x → W.cell? ⟨b, o + i * 3, none⟩ = some (.int .u64 x.site) ∧ W.cell? ⟨b, o + i * 3 + 1, none⟩ = some (.int .u32 x.first) ∧ W.cell? ⟨b, o + i * 3 + 2, none⟩ = some (.int .u32 x.last)

def snEnc (x : Sn) : Array Value := #[.agg #[.int .u64 x.site, .int .u32 x.first, .int .u32 x.last]]

theorem values_any (a : Option Addr) (n c : Nat) (w : World) : Calls Ybaf.prog 36 #[.slice a n c] w fun e w' => e = .returned (.func (.func 53) #[] #[.pointer (some ⟨w.heap.size, 0, none⟩)]) ∧ w' = w.alloc (.cells #[.slice a n c] 35) := by
  go_enter Ybaf.func36, Ybaf.ntmps36
  go_wp2
  go_ret
  exact ⟨rfl, rfl⟩

theorem take_pre {α : Type} {xs : List α} {k : Nat} {x : α} (h : xs[k]? = some x) : xs.take k ++ [x] <+: xs ∧ xs.take k ++ [x] = xs.take (k + 1) := by
  have e : xs.take k ++ [x] = xs.take (k + 1) := by rw [List.take_add_one, h]; rfl
  exact ⟨e ▸ List.take_prefix _ _, e⟩

set_option maxRecDepth 100000 in
set_option maxHeartbeats 4000000 in
theorem values_iter {fb vb n c : Nat} {a : Option Addr} {xs : List Sn} (hn : xs.length = n) (hsm : n ≤ 4096) :
    Iter Ybaf.prog 53 #[.pointer (some ⟨vb, 0, none⟩)] snEnc fb xs (fun W => W.cell? ⟨vb, 0, none⟩ = some (.slice a n c) ∧ SpAt W a xs ∧ vb ≠ fb ∧ boxBlk W fb ≠ some vb ∧ (∀ b, blkOf a = some b → b ≠ fb ∧ boxBlk W fb ≠ some b)) := by
  rintro l J W ⟨hc, hsp, hnf, hbb, hba⟩ hfb hJ hrow hY hs0
  have HJ : Hid (Steady W.heap.size J) := hJ
  have HY : Hid _ := hY
  have HS : Hid (J [] W) := hs0
  have HC : Hid (SpAt W a xs) := hsp
  have HBA : Hid _ := hba
  clear hJ hrow hY hs0 hsp hba
  refine (callsIn_wide (n := 3)).1 (callsIn_of_wp Ybaf.func53 rfl trivial ?_ rfl)
  simp only [Ybaf.ntmps53, List.size_toArray, List.length_cons, List.length_nil, Nat.reduceAdd, Nat.reduceSub, Array.replicate_succ, Array.replicate_zero, List.push_toArray, List.append_toArray, List.nil_append, List.cons_append]
  gi_wp2
  gi_loopw [4, 7, 9, 10, 11, 12, 13, 14] (fun _ v _ _ _ _ _ _ wr => ∃ k : Nat, k ≤ n ∧ v = .int .i64 k ∧ Hid (J (xs.take k) wr ∧ Kb fb W wr)) (fun _ v _ _ _ _ _ _ _ => n - (intOf v).toNat)
  case atStart => exact ⟨0, Nat.zero_le _, rfl, HS.out, Kb.refl _ _⟩
  case round =>
    obtain ⟨k, hk, rfl, HR⟩ := hrel
    by_cases hlt : k < n
    · obtain ⟨x, hx⟩ : ∃ x, xs[k]? = some x := ⟨_, List.getElem?_eq_getElem (by omega)⟩
      rcases HC.out with rfl | ⟨b, o, rfl, hcells⟩
      · simp at hx
      obtain ⟨hb1, hb2⟩ := HBA.out b rfl
      obtain ⟨q0, q1, q2⟩ := hcells k x hx
      have c0 := HR.out.2.cell q0 hb1 hb2
      have c1 := HR.out.2.cell q1 hb1 hb2
      have c2 := HR.out.2.cell q2 hb1 hb2
      obtain ⟨hp3, hp4⟩ := take_pre hx
      obtain ⟨fn, tmps, assign, body, hy, hR⟩ := HY.out _ x (wr.alloc (.cells #[.int .u64 x.site, .int .u32 x.first, .int .u32 x.last] 81)) (3 - 1) (HJ.out.alloc _ wr _ HR.out.1) hp3
      simp only [snEnc] at hy
      have HRR : Hid _ := hR
      have kk : (k : Int) < (n : Int) := by omega
      have HP4 : Hid _ := hp4
      have hsz := HR.out.2.size
      clear hp3 hp4 hR q0 q1 q2 hcells hx
      gi_wp2
      refine RoundIn.mono (F := Fence.wide) HRR.out ?_
      rintro e W3 ⟨rfl, hJ3, hk3⟩
      have HJ3 : Hid _ := hJ3
      have hfw : fb < wr.heap.size := by omega
      have HK3 : Hid (Kb fb wr W3) := ((Kb.refl fb wr).alloc hfw _).trans hk3
      clear hJ3 hk3
      gi_wp2
      go_roundw
      case rel => exact ⟨k + 1, by omega, by go_num, by rw [← HP4.out]; exact HJ3.out, HR.out.2.trans HK3.out⟩
      case measure => simp [intOf]; omega
    · obtain rfl : k = n := by omega
      gi_wp2
      go_end0
      refine ⟨⟨_, rfl⟩, ?_, HR.out.2⟩
      have := HR.out.1
      rwa [← hn, List.take_length] at this

end Go.Proofs.YbulkdyyyFmt
