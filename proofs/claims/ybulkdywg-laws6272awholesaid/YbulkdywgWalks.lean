/-
  The walks of seat b6272a: the law's own closure and (*Node).rosterOf.
-/
import Derived.Test.YbulkdywgRows
import Derived.WalkKit
import Derived.WalkSpells
import Derived.WalkLawsBesides
import Derived.ProofKit
import Derived.BigQuiet
import Derived.Deep.QuietTactic
import Derived.Deep.RegionWith
import Derived.Deep.DeepCutAuto
import Derived.Lib.Builder
namespace Go.Proofs.Ybulkdywg
open Go.RowKit

theorem below_drewN {B : Nat} {a w : World} (h : Below B a w) (q : Nat) : Below B a (w.drewN q) := ⟨h.os, h.tape, h.output, h.size, h.block⟩

/-- The closure 'members': it counts its calls, keeps what it was asked, and hands the ids back. -/
theorem members_any (bc ba bm : Nat) (r x0 : Int) (mv : Value) (w : World) (hne : bc ≠ ba) (hm1 : bm ≠ bc) (hm2 : bm ≠ ba)
    (h1 : w.heap[bc]? = some (.cells #[.int .i64 0] 3 (0, 0))) (h2 : w.heap[ba]? = some (.cells #[.int .u32 x0] 25 (0, 0))) (h3 : w.heap[bm]? = some (.cells #[mv] 26 (0, 0))) :
    Calls Yba.prog 4 #[.int .u32 r, .pointer (some ⟨bc, 0, none⟩), .pointer (some ⟨ba, 0, none⟩), .pointer (some ⟨bm, 0, none⟩)] w fun e w' => e = .returned mv ∧ w' = (w.setCell ⟨bc, 0, none⟩ (.int .i64 1)).setCell ⟨ba, 0, none⟩ (.int .u32 r) := by
  have c1 := cell_of_one h1
  have f1 := free_of_one h1
  have c2 := cell_of_one h2
  have f2 := free_of_one h2
  have c3 := cell_of_one h3
  clear h1 h2 h3
  go_enter Yba.func4, Yba.ntmps4
  go_wp2
  go_ret
  exact ⟨rfl, rfl⟩

/-- What one call of the closure does to memory. -/
structure Rung (bc ba : Nat) (r : Int) (w w' : World) : Prop where
  os : w'.os = w.os
  tape : w'.tape = w.tape
  output : w'.output = w.output
  size : w'.heap.size = w.heap.size
  calls : w'.heap[bc]? = some (.cells #[.int .i64 1] 3 (0, 0))
  asked : w'.heap[ba]? = some (.cells #[.int .u32 r] 25 (0, 0))
  other : ∀ b, b ≠ bc → b ≠ ba → w'.heap[b]? = w.heap[b]?

theorem Rung.cell {bc ba : Nat} {r : Int} {w w' : World} (h : Rung bc ba r w w') (b o : Nat) (h1 : b ≠ bc) (h2 : b ≠ ba) : w'.cell? ⟨b, o, none⟩ = w.cell? ⟨b, o, none⟩ :=
  World.cell?_of_block (w := w) (h.other b h1 h2)
theorem Rung.frozen {bc ba : Nat} {r : Int} {w w' : World} (h : Rung bc ba r w w') (b o : Nat) (h1 : b ≠ bc) (h2 : b ≠ ba) : w'.frozen? ⟨b, o, none⟩ = w.frozen? ⟨b, o, none⟩ :=
  World.frozen?_of_block (w := w) (h.other b h1 h2)

theorem members_rung (bc ba bm : Nat) (r x0 : Int) (mv : Value) (w : World) (hne : bc ≠ ba) (hm1 : bm ≠ bc) (hm2 : bm ≠ ba)
    (h1 : w.heap[bc]? = some (.cells #[.int .i64 0] 3 (0, 0))) (h2 : w.heap[ba]? = some (.cells #[.int .u32 x0] 25 (0, 0))) (h3 : w.heap[bm]? = some (.cells #[mv] 26 (0, 0))) :
    Calls Yba.prog 4 #[.int .u32 r, .pointer (some ⟨bc, 0, none⟩), .pointer (some ⟨ba, 0, none⟩), .pointer (some ⟨bm, 0, none⟩)] w fun e w' => e = .returned mv ∧ Rung bc ba r w w' := by
  refine (members_any bc ba bm r x0 mv w hne hm1 hm2 h1 h2 h3).mono ?_
  rintro e w' ⟨rfl, rfl⟩
  have k2 : (w.setCell ⟨bc, 0, none⟩ (.int .i64 1)).heap[ba]? = some (.cells #[.int .u32 x0] 25 (0, 0)) := by rw [Below.heap_setCell _ _ _ _ (Ne.symm hne)]; exact h2
  refine ⟨rfl, ⟨rfl, rfl, rfl, by simp, ?_, one_setCell k2, fun b hb1 hb2 => ?_⟩⟩
  · rw [Below.heap_setCell _ _ _ _ hne]; exact one_setCell h1
  · rw [Below.heap_setCell _ _ _ _ hb2, Below.heap_setCell _ _ _ _ hb1]

theorem cell2a {w : World} {b : Nat} {u v : Value} {t : TypeId} (h : w.heap[b]? = some (.cells #[u, v] t (0, 0))) : w.cell? ⟨b, 0, none⟩ = some u := by rw [cell_of_row w _ _ _ _ _ h]; rfl
theorem cell2b {w : World} {b : Nat} {u v : Value} {t : TypeId} (h : w.heap[b]? = some (.cells #[u, v] t (0, 0))) : w.cell? ⟨b, 1, none⟩ = some v := by rw [cell_of_row w _ _ _ _ _ h]; rfl
theorem free2 {w : World} {b : Nat} {cs : Array Value} {t : TypeId} (h : w.heap[b]? = some (.cells cs t (0, 0))) (j : Nat) : w.frozen? ⟨b, j, none⟩ = false := frozen_of_row w _ j _ _ h

def First (zs : List Int) (n : Nat) (r : Int) (ps : Nat → Addr) (pf p : Addr) : Prop :=
  (∃ j, j < n ∧ zs.getD j 0 = r ∧ (∀ i, i < j → ¬ zs.getD i 0 = r) ∧ p = ps j) ∨ ((∀ i, i < n → ¬ zs.getD i 0 = r) ∧ p = pf)

structure After (B bc ba : Nat) (r : Int) (w w' : World) : Prop where
  below : Below B w w'
  calls : w'.heap[bc]? = some (.cells #[.int .i64 1] 3 (0, 0))
  asked : w'.heap[ba]? = some (.cells #[.int .u32 r] 25 (0, 0))
  other : ∀ b, b < w.heap.size → b ≠ bc → b ≠ ba → w'.heap[b]? = w.heap[b]?

theorem after_of {B bc ba : Nat} {r : Int} {w wr W w2 : World} {o : Obj} {u v : Value} (hB1 : B ≤ bc) (hB2 : B ≤ ba) (hbc : bc < w.heap.size) (hba : ba < w.heap.size)
    (hb : Below (w.heap.size + 1) (w.alloc o) wr) (hW : Below wr.heap.size wr W) (hR : Rung bc ba r W w2) :
    After B bc ba r w ((w2.setCell ⟨w.heap.size, 0, none⟩ u).setCell ⟨w.heap.size, 1, none⟩ v) := by
  have hs : w.heap.size + 1 ≤ wr.heap.size := by have := hb.size; simpa using this
  have hk : ∀ k, k ≠ w.heap.size → ((w2.setCell ⟨w.heap.size, 0, none⟩ u).setCell ⟨w.heap.size, 1, none⟩ v).heap[k]? = w2.heap[k]? := fun k hk => by
    rw [Below.heap_setCell _ _ _ _ hk, Below.heap_setCell _ _ _ _ hk]
  have ho : ∀ k, k < w.heap.size → k ≠ bc → k ≠ ba → w2.heap[k]? = w.heap[k]? := fun k h1 h2 h3 => by
    rw [hR.other k h2 h3, hW.block k (by omega), hb.block k (by omega), Below.heap_alloc _ _ _ h1]
  refine ⟨⟨?_, ?_, ?_, ?_, fun k hk' => ?_⟩, ?_, ?_, fun k h1 h2 h3 => ?_⟩
  · exact hR.os.trans (hW.os.trans hb.os)
  · exact hR.tape.trans (hW.tape.trans hb.tape)
  · exact hR.output.trans (hW.output.trans hb.output)
  · simp only [World.size_setCell]; rw [hR.size]; have := hW.size; omega
  · rw [hk k (by omega), ho k (by omega) (by omega) (by omega)]
  · rw [hk bc (by omega)]; exact hR.calls
  · rw [hk ba (by omega)]; exact hR.asked
  · rw [hk k (by omega), ho k h1 h2 h3]

set_option maxHeartbeats 4000000 in
set_option maxRecDepth 100000 in
theorem roster_any (B nb gl n bc ba bm : Nat) (zs : List Int) (ps : Nat → Addr) (pf : Addr) (r : Int) (ma : Option Addr) (ml mc : Nat) (w : World) (hn : n ≤ 1048576) (hne : bc ≠ ba) (hm1 : bm ≠ bc) (hm2 : bm ≠ ba) (hB1 : B ≤ bc) (hB2 : B ≤ ba) (hnb1 : nb ≠ bc) (hnb2 : nb ≠ ba)
   (h1 : w.heap[bc]? = some (.cells #[.int .i64 0] 3 (0, 0))) (h2 : w.heap[ba]? = some (.cells #[.int .u32 0] 25 (0, 0))) (h3 : w.heap[bm]? = some (.cells #[.slice ma ml mc] 26 (0, 0)))
   (h4 : w.cell? ⟨nb, 4, none⟩ = some (.slice (some ⟨gl, 0, none⟩) n n)) 
   (h5 : w.cell? ⟨nb, 5, none⟩ = some (.func (.func 4) #[] #[.pointer (some ⟨bc, 0, none⟩), .pointer (some ⟨ba, 0, none⟩), .pointer (some ⟨bm, 0, none⟩)]))
   (h6 : w.cell? ⟨nb, 6, none⟩ = some (.pointer (some pf)))  (hlt : nb < w.heap.size) (hlt' : 0 < n → gl < w.heap.size)
    (hlinks : ∀ i, i < n → w.cell? ⟨gl, i * 4, none⟩ = some (.int .u32 (zs.getD i 0)) ∧ w.cell? ⟨gl, i * 4 + 1, none⟩ = some (.pointer (some (ps i))) ∧ w.cell? ⟨gl, i * 4 + 2, none⟩ = some (.map none) ∧ w.cell? ⟨gl, i * 4 + 3, none⟩ = some (.slice none 0 0)) :
    Calls Yba.prog 5 #[.pointer (some ⟨nb, 0, none⟩), .int .u32 r] w fun e w' => ∃ p, e = .returned (.agg #[.slice ma ml mc, .pointer (some p)]) ∧ First zs n r ps pf p ∧ After B bc ba r w w' := by
  have HL : Hid _ := hlinks
  have hbc := lt_of_block h1
  have hba := lt_of_block h2
  have hbm := lt_of_block h3
  clear hlinks
  go_enter Yba.func5, Yba.ntmps5
  go_wp2
  go_loopw [6, 12] (fun _ i wr => ∃ k : Nat, k ≤ n ∧ i = .int .i64 k ∧ Below (w.heap.size + 1) (w.alloc (.cells #[.slice none 0 0, .pointer none] 76)) wr ∧ Hid (∀ j, j < k → ¬ zs.getD j 0 = r)) (fun _ i _ => n - (intOf i).toNat)
  case atStart => exact ⟨0, Nat.zero_le _, rfl, Below.refl _ _, fun j hj => by omega⟩
  case round =>
    obtain ⟨k, hk, rfl, hb, HN⟩ := hrel
    have hsz : w.heap.size + 1 ≤ wr.heap.size := by have := hb.size; simpa using this
    have hbk : ∀ b, b < w.heap.size → wr.heap[b]? = w.heap[b]? := fun b hb' => (hb.block b (by omega)).trans (Below.heap_alloc _ _ _ hb')
    have hcl : ∀ b o, b < w.heap.size → wr.cell? ⟨b, o, none⟩ = w.cell? ⟨b, o, none⟩ := fun b o hb' => World.cell?_of_block (w := w) (hbk b hb')
    have s5 := (hcl nb 5 hlt).trans h5
    have s6 := (hcl nb 6 hlt).trans h6
    have x1 : wr.heap[bc]? = _ := (hbk bc hbc).trans h1
    have x2 : wr.heap[ba]? = _ := (hbk ba hba).trans h2
    have x3 : wr.heap[bm]? = _ := (hbk bm hbm).trans h3
    have xr : wr.heap[w.heap.size]? = some (.cells #[.slice none 0 0, .pointer none] 76 (0, 0)) := (hb.block _ (by omega)).trans (heap_alloc_new w _)
    have hm := fun (W : World) (hW : ∀ b, b < wr.heap.size → W.heap[b]? = wr.heap[b]?) => members_rung bc ba bm r 0 (.slice ma ml mc) W hne hm1 hm2 ((hW bc (by omega)).trans x1) ((hW ba (by omega)).trans x2) ((hW bm (by omega)).trans x3)
    have HM : Hid _ := hm
    have HB : Hid _ := hb
    have HK : Hid _ := hbk
    have HX1 : Hid _ := x1
    have HX2 : Hid _ := x2
    have HXR : Hid _ := xr
    by_cases hkn : k < n
    · obtain ⟨q0, q1, q2, q3⟩ := HL.out k hkn
      have c0 := (hcl gl (k * 4) (hlt' (by omega))).trans q0
      have c1 := (hcl gl (k * 4 + 1) (hlt' (by omega))).trans q1
      have c2 := (hcl gl (k * 4 + 2) (hlt' (by omega))).trans q2
      have c3 := (hcl gl (k * 4 + 3) (hlt' (by omega))).trans q3
      have hnew : nb < wr.heap.size := by omega
      clear hm hb hbk hcl x1 x2 x3 q0 q1 q2 q3 h1 h2 h3 h4 h5 h6 xr
      by_cases he : zs.getD k 0 = r
      · have F : First zs n r ps pf (ps k) := .inl ⟨k, hkn, he, HN.out, rfl⟩
        rw [he] at c0
        have HF : Hid (First zs n r ps pf (ps k)) := F
        clear F
        have n1 : ¬ wr.heap.size = bc := by omega
        have n2 : ¬ wr.heap.size = ba := by omega
        have n3 : ¬ w.heap.size = bc := by omega
        have n4 : ¬ w.heap.size = ba := by omega
        have n1' : ¬ bc = wr.heap.size := by omega
        have n2' : ¬ ba = wr.heap.size := by omega
        have n3' : ¬ bc = w.heap.size := by omega
        have n4' : ¬ ba = w.heap.size := by omega
        have r0 : wr.cell? ⟨w.heap.size, 0, none⟩ = some (.slice none 0 0) := by rw [cell_of_row wr _ _ _ _ _ HXR.out]; rfl
        have r1 : wr.cell? ⟨w.heap.size, 1, none⟩ = some (.pointer none) := by rw [cell_of_row wr _ _ _ _ _ HXR.out]; rfl
        have rf : ∀ j, wr.frozen? ⟨w.heap.size, j, none⟩ = false := fun j => frozen_of_row wr _ j _ _ HXR.out
        have rlt : w.heap.size < wr.heap.size := by omega
        go_wp2
        go_region_with (go_at_call 4; go_must (refine (HM.out _ (by intro b hb; exact Below.heap_alloc _ _ _ hb)).mono ?_; rintro e w2 ⟨rfl, HR⟩; have g := (HR.other _ n3 n4).trans ((Below.heap_alloc _ _ _ rlt).trans HXR.out); have g0 := cell2a g; have g1 := cell2b g; have g2 := free2 g 0; have g3 := free2 g 1; have g4 := (HR.cell wr.heap.size 1 n1 n2).trans (World.cell?_alloc_new _ _ _ _); have g5 := HR.size; have HR' : Hid _ := HR; clear HR g))
        all_goals
          go_wp2
          refine bodyPost_ret (v := .agg #[.slice ma ml mc, .pointer (some (ps k))]) (by simp [results, Yba.results5, go_sem, g0, g1]) rfl ⟨_, rfl, HF.out, ?_⟩
          exact after_of hB1 hB2 hbc hba HB.out (((Below.refl _ _).alloc (Nat.le_refl _) _).drew) HR'.out
      · have he' : (zs.getD k 0 == r) = false := by simpa using he
        generalize zs.getD k 0 = y at c0 he'
        go_wp2
        go_roundw
        case rel =>
          refine ⟨k + 1, by omega, by go_num, HB.out.alloc (by omega) _, fun j hj => ?_⟩
          by_cases hjk : j = k
          · subst hjk; exact he
          · exact HN.out j (by omega)
        case measure => simp [intOf]; omega
    · have F : First zs n r ps pf pf := .inr ⟨fun i hi => HN.out i (by omega), rfl⟩
      have HF : Hid (First zs n r ps pf pf) := F
      clear F hm hb hbk hcl x1 x2 x3 h1 h2 h3 h4 h5 h6 xr
      have n3 : ¬ w.heap.size = bc := by omega
      have n4 : ¬ w.heap.size = ba := by omega
      have rlt : w.heap.size < wr.heap.size := by omega
      have r0 := cell2a HXR.out
      have r1 := cell2b HXR.out
      have rf0 := free2 HXR.out 0
      have rf1 := free2 HXR.out 1
      go_wp2
      go_region_with (go_at_call 4; go_must (refine (HM.out _ (by intro b hb; rfl)).mono ?_; rintro e w2 ⟨rfl, HR⟩; have g := (HR.other _ n3 n4).trans HXR.out; have g0 := cell2a g; have g1 := cell2b g; have g2 := free2 g 0; have g3 := free2 g 1; have g4 := (HR.cell nb 6 hnb1 hnb2).trans s6; have g5 := HR.size; have HR' : Hid _ := HR; clear HR g))
      all_goals
        go_wp2
        refine bodyPost_ret (v := .agg #[.slice ma ml mc, .pointer (some pf)]) (by simp [results, Yba.results5, go_sem, g0, g1]) rfl ⟨_, rfl, HF.out, ?_⟩
        exact after_of hB1 hB2 hbc hba HB.out (Below.drew (Below.refl _ _)) HR'.out
end Go.Proofs.Ybulkdywg
