/-
  The walk of seat b6272a's law: its first part, and the whole.
-/
import Derived.Test.YbulkdywgRest
namespace Go.Proofs.Ybulkdywg
open Go.RowKit

set_option maxRecDepth 100000 in
theorem top_big1 (a0 a3 : Option Addr) (n0 c0 n3 c3 : Nat) (p q : Int) (w : World) (hn : 1048576 < n0) (hb : n0 ≤ 9223372036854775807) :
    Calls Yba.prog 3 #[.slice a0 n0 c0, .int .u32 p, .int .u32 q, .slice a3 n3 c3] w fun e w' => e = .returned (.bool true) ∧ Below w.heap.size w w' := by
  go_enter Yba.func3, Yba.ntmps3
  go_wp2
  go_ret
  exact ⟨rfl, Below.refl _ _⟩

set_option maxRecDepth 100000 in
theorem top_big2 (a0 a3 : Option Addr) (n0 c0 n3 c3 : Nat) (p q : Int) (w : World) (hn0 : n0 ≤ 1048576) (hn : 1048576 < n3) (hb : n3 ≤ 9223372036854775807) :
    Calls Yba.prog 3 #[.slice a0 n0 c0, .int .u32 p, .int .u32 q, .slice a3 n3 c3] w fun e w' => e = .returned (.bool true) ∧ Below w.heap.size w w' := by
  have hd : decide ((1048576 : Int) < (n0 : Int)) = false := by simp; omega
  go_enter Yba.func3, Yba.ntmps3
  go_wp2
  go_ret
  exact ⟨rfl, Below.refl _ _⟩

set_option maxHeartbeats 1000000 in
set_option maxRecDepth 100000 in
theorem top (a0 a3 : Option Addr) (n0 c0 n3 c3 : Nat) (z0 z3 : List Int) (p q : Int) (w : World) (hn0 : n0 ≤ 1048576) (hn3 : n3 ≤ 1048576) (hp0 : 0 ≤ p) (hp1 : p < 4294967296)
    (hv0 : View .u32 w a0 n0 c0 z0) (hv3 : View .i32 w a3 n3 c3 z3) :
    Calls Yba.prog 3 #[.slice a0 n0 c0, .int .u32 p, .int .u32 q, .slice a3 n3 c3] w fun e w' => e = .returned (.bool true) ∧ Below w.heap.size w w' := by
  have hd1 : decide ((1048576 : Int) < (n0 : Int)) = false := by simp; omega
  have hd2 : decide ((1048576 : Int) < (n3 : Int)) = false := by simp; omega
  have HV0 : Hid (View .u32 w a0 n0 c0 z0) := hv0
  have HV3 : Hid (View .i32 w a3 n3 c3 z3) := hv3
  clear hv0 hv3
  go_enter Yba.func3, Yba.ntmps3
  go_upto_region 4 with fail
  go_cut [41] (fun v wc => wc = w ∧ ∃ b : Bool, v = .bool b ∧ (b = true → 0 < n0))
  case first =>
    by_cases h0 : n0 = 0
    · subst h0
      go_wp2
      go_meet
      case rel => exact ⟨rfl, false, rfl, fun h => by cases h⟩
    · have hpos : (0 : Int) < (n0 : Int) := by omega
      go_wp2
      go_meet
      case rel => exact ⟨rfl, _, rfl, fun _ => by omega⟩
  case rest =>
  obtain ⟨rfl, bt, rfl, hbt⟩ := hcut
  go_upto_if 41 with fail
  go_cut [9] (fun v wc' => wc' = wc ∧ ∃ r : Int, v = .int .u32 r)
  case first =>
    cases bt with
    | false =>
      go_wp2
      go_meet
      case rel => exact ⟨rfl, _, rfl⟩
    | true =>
      have h0 := hbt rfl
      obtain ⟨b, o, rfl, hc⟩ := HV0.out.at h0
      have i0 : 0 ≤ p / 2 % (n0 : Int) := Int.emod_nonneg _ (by omega)
      have i1 : p / 2 % (n0 : Int) < (n0 : Int) := Int.emod_lt_of_pos _ (by omega)
      have hi := hc (p / 2 % (n0 : Int)).toNat (by omega)
      clear hc hbt
      have i2 : 0 ≤ p / 2 := by omega
      have i3 : p / 2 < 4294967296 := by omega
      have hpos : (0 : Int) < (n0 : Int) := by omega
      go_wp2
      go_meet
      case rel => exact ⟨rfl, _, rfl⟩
  case rest =>
  obtain ⟨rfl, r, rfl⟩ := hcut
  have hnn := fun (w : World) a n c => run_neq_slice_nil_any (P := Yba.prog) w 24 21 a n c 0 0 Yba.underlying24
  go_upto_if 52 with fail
  go_cut [11, 57, 58] (fun _ _ _ wm => Memb wc.heap.size n3 z3 wc wm)
  case first =>
    rcases HV3.out.2.2.2 with ⟨rfl, rfl, rfl⟩ | ⟨x3, rfl, hc3⟩
    · go_wp2
      go_meet
      case rel =>
        refine ⟨none, 0, 0, heap_alloc_new wc _, fun h => by omega, fun j hj => by omega, (Below.refl _ _).alloc (Nat.le_refl _) _, by simp⟩
    · have HC3 : Hid (∀ j, j < n3 → wc.cell? (x3.add j) = some (.int .i32 (z3.getD j 0))) := hc3
      clear hc3
      obtain ⟨i0, hi, hz0, hz1, hz2⟩ := info_parts Yba.info27
      have hb2 : i0.bytes * n3 ≤ 281474976710656 := by rw [hz2]; omega
      have hb3 : n3 ≤ maxLen := by unfold maxLen; omega
      go_wp2_with (at_make; refine wpList_make_full _ rfl _ _ 26 rfl (wc.heap.size + 1) 27 i0 (.int .i32 0) 1 Yba.underlying26 hi hz0 hz1 _ _ _ _ n3 rfl rfl rfl rfl hb2 hb3 (by simp) ?_)
      intro w1 hown hgrow
      obtain ⟨cur0, hcur0, hlen0'⟩ := row_of_own hown
      have hlen0 : cur0.length = n3 := by simpa using hlen0'
      have hbox : w1.heap[wc.heap.size]? = some (.cells #[.slice none 0 0] 26 (0, 0)) := (hgrow.block _ (by simp) (by simp)).trans (heap_alloc_new wc _)
      have hbel : Below wc.heap.size wc w1 := ((Below.refl _ _).alloc (Nat.le_refl _) _).grown hgrow (by simp) (by intro k hk; cases hk)
      have cb := cell_of_one hbox
      have fb := free_of_one hbox
      have HROW : Hid (w1.heap[wc.heap.size + 1]? = some (.cells cur0.toArray 27 (0, 0))) := hcur0
      have HBOX : Hid (w1.heap[wc.heap.size]? = some (.cells #[.slice none 0 0] 26 (0, 0))) := hbox
      have HBEL : Hid (Below wc.heap.size wc w1) := hbel
      clear hown hgrow hcur0 hbox hbel
      go_wp2
      go_loopw [11, 58] (fun _ i wr => ∃ (k : Nat) (cur : List Value), k ≤ n3 ∧ i = .int .i64 k ∧ wr.heap[wc.heap.size]? = some (.cells #[.slice (some ⟨wc.heap.size + 1, 0, none⟩) n3 n3] 26 (0, 0)) ∧
          wr.heap[wc.heap.size + 1]? = some (.cells cur.toArray 27 (0, 0)) ∧ cur.length = n3 ∧ Below wc.heap.size wc wr ∧ Hid (∀ j, j < k → cur[j]? = some (.int .i32 (z3.getD j 0)))) (fun _ i _ => n3 - (intOf i).toNat)
      case atStart =>
        refine ⟨0, cur0, Nat.zero_le _, rfl, one_setCell HBOX.out, ?_, hlen0, HBEL.out.setCell (Nat.le_refl _) _, fun j hj => by omega⟩
        rw [Below.heap_setCell _ _ _ _ (by simp)]; exact HROW.out
      case round =>
        obtain ⟨k, cur, hk, rfl, hbx, hrw, hln, hbl, HD⟩ := hrel
        have d1 := cell_of_one hbx
        have HBX : Hid (wr.heap[wc.heap.size]? = some (.cells #[.slice (some ⟨wc.heap.size + 1, 0, none⟩) n3 n3] 26 (0, 0))) := hbx
        have HRW : Hid (wr.heap[wc.heap.size + 1]? = some (.cells cur.toArray 27 (0, 0))) := hrw
        have HBL : Hid (Below wc.heap.size wc wr) := hbl
        clear hbx hrw hbl
        by_cases hkn : k < n3
        · obtain ⟨b3, o3, e3, hc3⟩ := HV3.out.at (by omega)
          cases e3
          have g3 := hc3 k hkn
          have d3 : wr.cell? ⟨b3, o3 + k, none⟩ = some (.int .i32 (z3.getD k 0)) := (HBL.out.cell (World.block_lt_of_cell? _ _ g3)).trans g3
          clear hc3 g3
          obtain ⟨y, hy⟩ : ∃ y, cur[k]? = some y := ⟨cur[k], by simp [hln, hkn]⟩
          have d4 : wr.cell? ⟨wc.heap.size + 1, k, none⟩ = some y := by rw [cell_of_row wr _ _ _ _ _ HRW.out]; simpa using hy
          have d5 : wr.frozen? ⟨wc.heap.size + 1, k, none⟩ = false := frozen_of_row wr _ k _ _ HRW.out
          clear hy
          generalize hz : z3.getD k 0 = z at d3
          have HZ : Hid (z3.getD k 0 = z) := hz
          clear hz
          go_wp2
          go_region
          go_wp2
          go_roundw
          case rel =>
            refine ⟨k + 1, cur.set k (.int .i32 z), by omega, by go_num, ?_, row_set HRW.out _ _, by simpa using hln, (HBL.out.setCell (by simp) _).drew, fun j hj => ?_⟩
            · show (wr.setCell _ _).heap[_]? = _
              rw [Below.heap_setCell _ _ _ _ (by simp)]; exact HBX.out
            · by_cases hjk : j = k
              · subst hjk; rw [HZ.out]; simp [hln, hkn]
              · rw [List.getElem?_set_ne (by omega)]; exact HD.out j (by omega)
          case measure => simp [intOf]; omega
        · go_wp2
          go_meet
          case rel =>
            refine ⟨_, _, wc.heap.size + 1, HBX.out, fun _ => ⟨rfl, by omega⟩, fun j hj => ?_, HBL.out, lt_of_block HBX.out⟩
            rw [cell_of_row wr _ _ _ _ _ HRW.out]
            simpa using HD.out j (by omega)
  case rest =>
  go_step
  exact rest_any hn0 hn3 rfl HV0.out HV3.out hcut

end Go.Proofs.Ybulkdywg
