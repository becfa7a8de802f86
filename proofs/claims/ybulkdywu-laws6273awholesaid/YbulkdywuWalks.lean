/-
  The walks of seat b6273a: the callees: binary.BigEndian.Uint32, cutRecord, bytes.Equal, the law's own clone.
-/
import Derived.Test.YbulkdywuRows
import Derived.WalkKit
import Derived.WalkSpells
import Derived.WalkLawsBesides
import Derived.ProofKit
import Derived.BigQuiet
import Derived.Deep.QuietTactic
import Derived.Laws.CopyOwn
import Derived.Lib.EndianBits
namespace Go.Proofs.Ybulkdywu
open Go.RowKit

theorem Yba.info5 : (Yba.prog.info? 5).map (fun i => (i.zero, i.size, i.bytes)) = some (some (.int .u8 0), 1, 1) := by kernel_rfl
theorem Yba.size5 : (Yba.prog.info? 5).map (·.size) = some 1 := by kernel_rfl

/-- The number that four bytes spell, the greatest first. -/
def be4 (a b c d : Int) : Int := d + c * 256 + b * 65536 + a * 16777216

theorem below_drewN {B : Nat} {a w : World} (h : Below B a w) (q : Nat) : Below B a (w.drewN q) := ⟨h.os, h.tape, h.output, h.size, h.block⟩

set_option maxHeartbeats 1000000 in
theorem uint32_any (g o n c : Nat) (b0 b1 b2 b3 : Int) (w : World) (hn : 4 ≤ n)
    (h0 : 0 ≤ b0 ∧ b0 < 256) (h1 : 0 ≤ b1 ∧ b1 < 256) (h2 : 0 ≤ b2 ∧ b2 < 256) (h3 : 0 ≤ b3 ∧ b3 < 256)
    (c0 : w.cell? ⟨g, o, none⟩ = some (.int .u8 b0)) (c1 : w.cell? ⟨g, o + 1, none⟩ = some (.int .u8 b1)) (c2 : w.cell? ⟨g, o + 2, none⟩ = some (.int .u8 b2)) (c3 : w.cell? ⟨g, o + 3, none⟩ = some (.int .u8 b3)) :
    Calls Yba.prog 7 #[.agg #[], .slice (some ⟨g, o, none⟩) n c] w fun e w' => e = .returned (.int .u32 (be4 b0 b1 b2 b3)) ∧ Below w.heap.size w w' := by
  obtain ⟨h00, h01⟩ := h0
  obtain ⟨h10, h11⟩ := h1
  obtain ⟨h20, h21⟩ := h2
  obtain ⟨h30, h31⟩ := h3
  have d0 : (w.alloc (.cells #[] 33)).cell? ⟨g, o, none⟩ = some (.int .u8 b0) := Lib.cell?_alloc_some _ c0
  have d1 : (w.alloc (.cells #[] 33)).cell? ⟨g, o + 1, none⟩ = some (.int .u8 b1) := Lib.cell?_alloc_some _ c1
  have d2 : (w.alloc (.cells #[] 33)).cell? ⟨g, o + 2, none⟩ = some (.int .u8 b2) := Lib.cell?_alloc_some _ c2
  have d3 : (w.alloc (.cells #[] 33)).cell? ⟨g, o + 3, none⟩ = some (.int .u8 b3) := Lib.cell?_alloc_some _ c3
  have k0 : (0 : Int) < (n : Int) := by omega
  have k1 : (1 : Int) < (n : Int) := by omega
  have k2 : (2 : Int) < (n : Int) := by omega
  have k3 : (3 : Int) < (n : Int) := by omega
  go_enter Yba.func7, Yba.ntmps7
  go_wp2
  go_quiet (fail)
  go_wp2
  go_ret
  refine ⟨?_, below_drewN ((Below.refl _ w).alloc (Nat.le_refl _) _) _⟩
  simp (disch := omega) only [u32_or8, u32_or16, u32_or24]
  rfl

theorem cut_short (a : Option Addr) (n c : Nat) (w : World) (hn : n < 4) :
    Calls Yba.prog 5 #[.slice a n c] w fun e w' => e = .returned (.tuple #[.slice none 0 0, .slice none 0 0, .bool false]) ∧ w' = w := by
  go_enter Yba.func5, Yba.ntmps5
  go_wp2
  go_ret3
  exact ⟨rfl, rfl⟩

set_option maxHeartbeats 1000000 in
theorem cut_far (g o n c : Nat) (b0 b1 b2 b3 : Int) (w : World) (hn : 4 ≤ n) (hnc : n ≤ c) (hc : c ≤ 9223372036854775807)
    (h0 : 0 ≤ b0 ∧ b0 < 256) (h1 : 0 ≤ b1 ∧ b1 < 256) (h2 : 0 ≤ b2 ∧ b2 < 256) (h3 : 0 ≤ b3 ∧ b3 < 256)
    (c0 : w.cell? ⟨g, o, none⟩ = some (.int .u8 b0)) (c1 : w.cell? ⟨g, o + 1, none⟩ = some (.int .u8 b1)) (c2 : w.cell? ⟨g, o + 2, none⟩ = some (.int .u8 b2)) (c3 : w.cell? ⟨g, o + 3, none⟩ = some (.int .u8 b3))
    (hfar : (n : Int) - 4 < be4 b0 b1 b2 b3) :
    Calls Yba.prog 5 #[.slice (some ⟨g, o, none⟩) n c] w fun e w' => e = .returned (.tuple #[.slice none 0 0, .slice none 0 0, .bool false]) ∧ Below w.heap.size w w' := by
  have hu := uint32_any g o n c b0 b1 b2 b3 w hn h0 h1 h2 h3 c0 c1 c2 c3
  have hlo : 0 ≤ be4 b0 b1 b2 b3 := by unfold be4; omega
  have hhi : be4 b0 b1 b2 b3 < 4294967296 := by unfold be4; omega
  generalize be4 b0 b1 b2 b3 = N at *
  go_enter Yba.func5, Yba.ntmps5
  go_wp2_with fail
  refine hu.mono ?_
  rintro e w1 ⟨rfl, hb⟩
  go_wp2
  all_goals
    go_ret3
    exact ⟨rfl, hb⟩

set_option maxHeartbeats 1000000 in
theorem cut_fit (g o n c N : Nat) (b0 b1 b2 b3 : Int) (w : World) (hn : 4 ≤ n) (hnc : n ≤ c) (hc : c ≤ 9223372036854775807) (hn2 : n ≤ 2000000)
    (h0 : 0 ≤ b0 ∧ b0 < 256) (h1 : 0 ≤ b1 ∧ b1 < 256) (h2 : 0 ≤ b2 ∧ b2 < 256) (h3 : 0 ≤ b3 ∧ b3 < 256)
    (c0 : w.cell? ⟨g, o, none⟩ = some (.int .u8 b0)) (c1 : w.cell? ⟨g, o + 1, none⟩ = some (.int .u8 b1)) (c2 : w.cell? ⟨g, o + 2, none⟩ = some (.int .u8 b2)) (c3 : w.cell? ⟨g, o + 3, none⟩ = some (.int .u8 b3))
    (hN : be4 b0 b1 b2 b3 = (N : Int)) (hfit : N ≤ n - 4) :
    Calls Yba.prog 5 #[.slice (some ⟨g, o, none⟩) n c] w fun e w' =>
      (∃ pa ra pc rc, e = .returned (.tuple #[.slice (some pa) N pc, .slice (some ra) (n - 4 - N) rc, .bool true]) ∧ (0 < N → pa = ⟨g, o + 4, none⟩) ∧ (0 < n - 4 - N → ra = ⟨g, o + 4 + N, none⟩)) ∧ Below w.heap.size w w' := by
  have hu := uint32_any g o n c b0 b1 b2 b3 w hn h0 h1 h2 h3 c0 c1 c2 c3
  rw [hN] at hu
  clear hN
  have hfit' : ¬ ((n - 4 : Nat) : Int) < (N : Int) := by omega
  by_cases e1 : c = 4
  · obtain rfl : N = 0 := by omega
    obtain rfl : n = 4 := by omega
    subst e1
    go_enter Yba.func5, Yba.ntmps5
    go_wp2_with fail
    refine hu.mono ?_
    rintro e w1 ⟨rfl, hb⟩
    clear hu
    go_wp2
    go_quiet (fail)
    go_wp2
    go_ret3
    exact ⟨⟨_, _, _, _, rfl, fun h => by omega, fun h => by omega⟩, below_drewN hb _⟩
  · by_cases e2 : c - 4 = N
    · go_enter Yba.func5, Yba.ntmps5
      go_wp2_with fail
      refine hu.mono ?_
      rintro e w1 ⟨rfl, hb⟩
      clear hu
      have e2' : c = N + 4 := by omega
      clear e2
      go_wp2
      go_quiet (fail)
      go_wp2
      go_ret3
      exact ⟨⟨_, _, _, _, rfl, fun _ => rfl, fun h => by first | rfl | omega⟩, below_drewN hb _⟩
    · go_enter Yba.func5, Yba.ntmps5
      go_wp2_with fail
      refine hu.mono ?_
      rintro e w1 ⟨rfl, hb⟩
      clear hu
      go_wp2
      go_quiet (fail)
      go_wp2
      go_ret3
      exact ⟨⟨_, _, _, _, rfl, fun _ => rfl, fun h => by first | rfl | omega⟩, below_drewN hb _⟩

theorem row_of_own {w : World} {base : Nat} {e : TypeId} {g n cap : Nat} {xs : List Value} (h : w.ownsRow base e 1 (.slice (some ⟨g, 0, none⟩) n cap) n xs) :
    ∃ cur : List Value, w.heap[g]? = some (.cells cur.toArray e (0, 0)) ∧ cur.length = cap ∧ cur.take n = xs := by
  rcases h.2 with ⟨h', _⟩ | ⟨g', cap', cur, h', _, hg, _, _, hcs, ht⟩
  · cases h'
  · simp only [Value.slice.injEq, Option.some.injEq, Addr.mk.injEq, and_true, true_and] at h'
    obtain ⟨rfl, rfl⟩ := h'
    exact ⟨cur.toList, by simpa using hg, by simpa using hcs, by simpa using ht⟩

theorem clone_nil (w : World) :
    Calls Yba.prog 4 #[.slice none 0 0] w fun e w' => e = .returned (.slice none 0 0) ∧ w' = w := by
  have hnil := fun (w : World) a n c => Lib.run_eql_slice_nil (P := Yba.prog) w 22 5 a n c 0 0 Yba.underlying22
  go_enter Yba.func4, Yba.ntmps4
  go_wp2
  go_ret
  exact ⟨rfl, rfl⟩

theorem clone_some (x : Addr) (n c : Nat) (bs : List Int) (w : World) (hn : n ≤ 2000000) (hz : bs.length = n)
    (h1 : ∀ j, j < n → w.cell? (x.add j) = some (.int .u8 (bs.getD j 0))) :
    Calls Yba.prog 4 #[.slice (some x) n c] w fun e w' => (∃ g, e = .returned (.slice (some ⟨g, 0, none⟩) n n) ∧ ∀ j, j < n → w'.cell? ⟨g, 0 + j, none⟩ = some (.int .u8 (bs.getD j 0))) ∧ Below w.heap.size w w' := by
  have hnil := fun (w : World) a n c => Lib.run_eql_slice_nil (P := Yba.prog) w 22 5 a n c 0 0 Yba.underlying22
  obtain ⟨i0, hi, hz0, hz1, hz2⟩ := info_parts Yba.info5
  have HX : Hid (∀ j, j < n → w.cell? (x.add j) = some (.int .u8 (bs.getD j 0))) := h1
  clear h1
  have hb2 : i0.bytes * n ≤ 281474976710656 := by rw [hz2]; omega
  have hb3 : n ≤ maxLen := by unfold maxLen; omega
  go_enter Yba.func4, Yba.ntmps4
  go_wp2_with (at_make; refine wpList_make_full _ rfl _ _ 22 rfl w.heap.size 5 i0 (.int .u8 0) 1 Yba.underlying22 hi hz0 hz1 _ _ _ _ n rfl rfl rfl rfl hb2 hb3 (Nat.le_refl _) ?_)
  intro w1 hown hgrow
  obtain ⟨cur, hcur, hlen, -⟩ := row_of_own hown
  have hbel : Below w.heap.size w w1 := (Below.refl _ _).grown hgrow (Nat.le_refl _) (by intro k hk; cases hk)
  have hcop : 0 < (bs.map (Value.int .u8)).length → (some ⟨w.heap.size, 0, none⟩ : Option Addr) = some ⟨w.heap.size, 0, none⟩ ∧ ∃ ad, (some x : Option Addr) = some ad ∧ ∀ j v, (bs.map (Value.int .u8))[j]? = some v → w1.cell? (ad.add j) = some v := by
    intro _
    refine ⟨rfl, x, rfl, fun j v hv => ?_⟩
    have hj : j < bs.length := by have := (List.getElem?_eq_some_iff.1 hv).1; simpa using this
    have hx := HX.out j (by omega)
    rw [hbel.cell (World.block_lt_of_cell? _ _ hx), hx, ← hv]
    simp [hj]
  clear hown hgrow
  have HC : Hid (w1.heap[w.heap.size]? = some (.cells cur.toArray 5 (0, 0))) := hcur
  have HB : Hid (Below w.heap.size w w1) := hbel
  have HP : Hid _ := hcop
  clear hcur hbel hcop
  go_wp2_with (refine wpList_copy_splice rfl (.tmp 9) (.tmp 10) 22 22 rfl 5 Yba.underlying22 Yba.size5 _ _ _ _ _ _ rfl rfl w.heap.size 0 cur 5 HC.out (bs.map (Value.int .u8)) (by simp [hz]) HP.out (by simp [hz, hlen]) (ints_oneCell _ _) w.heap.size w HB.out (Nat.le_refl _) ?_)
  intro w2 hg2 hb2
  go_wp2
  go_ret
  refine ⟨⟨_, rfl, fun j hj => ?_⟩, hb2⟩
  have hjl : j < bs.length := by omega
  rw [cell_of_row w2 _ _ _ _ _ hg2.out, splice]
  simp only [List.take_zero, List.nil_append, Nat.zero_add, List.getElem?_toArray]
  rw [List.getElem?_append_left (by simpa using hjl)]
  simp [hjl]

/-- What 'string(..)' of a slice of bytes gives. -/
theorem conv_empty (a : Option Addr) (c : Nat) (w : World) :
    (convert 22 9 (.slice a 0 c)).run Yba.prog w = .ok (.string (strOfNums [])) w := by
  cases a with
  | none => simp [convert, run_underlying Yba.underlying22, run_underlying Yba.underlying9, run_underlying Yba.underlying5, Conv.bytesToString, strOfNums]; rfl
  | some x => simp [convert, run_underlying Yba.underlying22, run_underlying Yba.underlying9, run_underlying Yba.underlying5, Conv.bytesToString, loadCells, loadCellsFrom, strOfNums]; rfl

theorem equal_same (v1 v2 : Value) (s : ByteArray) (w : World)
    (h1 : (convert 22 9 v1).run Yba.prog w = .ok (.string s) w) (h2 : (convert 22 9 v2).run Yba.prog w = .ok (.string s) w) :
    Calls Yba.prog 6 #[v1, v2] w fun e w' => e = .returned (.bool true) ∧ w' = w := by
  go_enter Yba.func6, Yba.ntmps6
  go_wp2
  go_ret
  exact ⟨by simp, rfl⟩

end Go.Proofs.Ybulkdywu
