/-
  Seat b6277aF: the law, walked whole.
-/
import Derived.Test.YbulkdyyyFmtL3
namespace Go.Proofs.YbulkdyyyFmt
open Go.RowKit Go.Sort Go.Shelf
set_option linter.unusedVariables false
set_option linter.unnecessarySimpa false

theorem info48z : (Ybaf.prog.info? 48).map (fun i => (i.zero, i.size, i.bytes)) = some (some (.agg #[.slice none 0 0, .int .u32 0, .string ⟨#[]⟩]), 3, 48) := by kernel_rfl

set_option maxHeartbeats 4000000 in
set_option maxRecDepth 100000 in
theorem law_big0 (a0 a1 : Option Addr) (n0 k0 n1 k1 : Nat) (w : World) (h : (4096 : Int) < (n0 : Int)) : Calls Ybaf.prog 4 #[.slice a0 n0 k0, .slice a1 n1 k1] w fun e w' => e = .returned (.bool true) ∧ Kept (fun _ => False) w w' := by
  go_enter Ybaf.func4, Ybaf.ntmps4
  go_wp2
  go_ret
  exact ⟨rfl, Kept.refl _ _⟩

set_option maxHeartbeats 4000000 in
set_option maxRecDepth 100000 in
theorem law_big1 (a0 a1 : Option Addr) (n0 k0 n1 k1 : Nat) (w : World) (h0 : ¬ (4096 : Int) < (n0 : Int)) (h : (4096 : Int) < (n1 : Int)) : Calls Ybaf.prog 4 #[.slice a0 n0 k0, .slice a1 n1 k1] w fun e w' => e = .returned (.bool true) ∧ Kept (fun _ => False) w w' := by
  go_enter Ybaf.func4, Ybaf.ntmps4
  go_wp2
  go_ret
  exact ⟨rfl, Kept.refl _ _⟩

set_option maxHeartbeats 4000000 in
set_option maxRecDepth 100000 in
theorem law_small (a0 a1 : Option Addr) (n0 k0 n1 k1 : Nat) (xs : List Sn) (zs : List Zl) (w : World) (h0 : n0 ≤ 4096) (h1 : n1 ≤ 4096) (hl : xs.length = n1) (hs1 : SpAt w a1 xs) (hln : LnAt w a0 zs) (hzn : zs.length = n0)
    (hws : WideS xs) (hwz : ∀ z ∈ zs, U64 z.site ∧ 0 ≤ z.depth ∧ z.depth ≤ 255) (hv1 : ∀ b, blkOf a1 = some b → b < w.heap.size) :
    Calls Ybaf.prog 4 #[.slice a0 n0 k0, .slice a1 n1 k1] w fun e w' => e = .returned (.bool true) ∧ Kept (fun _ => False) w w' := by
  have hmk : ∀ W, (Instr.makeSlice 36 (.int .i64 n0) (.int .i64 n0)).run Ybaf.prog W = .ok (.slice (some ⟨W.heap.size, 0, none⟩) n0 n0) (W.alloc (.cells (madeCells #[.slice none 0 0, .int .u32 0, .string ⟨#[]⟩] (n0 * 3)) 48)) := fun W =>
    (run_made (P := Ybaf.prog) (f := Ln.cells) zLn ln_len (by omega) 36 48 (.agg #[.slice none 0 0, .int .u32 0, .string ⟨#[]⟩]) 48 Ybaf.underlying36 info48z rfl .i64 .i64 n0 (by omega) (by omega) W).1
  have hrow := (run_made (P := Ybaf.prog) (f := Ln.cells) zLn ln_len (by omega) 36 48 (.agg #[.slice none 0 0, .int .u32 0, .string ⟨#[]⟩]) 48 Ybaf.underlying36 info48z rfl .i64 .i64 n0 (by omega) (by omega) w).2
  have HROW : Hid (Row Ln.cells 3 (w.alloc (.cells (madeCells #[.slice none 0 0, .int .u32 0, .string ⟨#[]⟩] (n0 * 3)) 48)) (some ⟨w.heap.size, 0, none⟩) n0 n0 (List.replicate n0 zLn)) := hrow
  have HLN : Hid (LnAt w a0 zs) := hln
  have HSP1 : Hid (SpAt w a1 xs) := hs1
  have HWS : Hid (WideS xs) := hws
  have HWZ : Hid (∀ z ∈ zs, U64 z.site ∧ 0 ≤ z.depth ∧ z.depth ≤ 255) := hwz
  have HV1 : Hid (∀ b, blkOf a1 = some b → b < w.heap.size) := hv1
  have d0 : ¬ (4096 : Int) < (n0 : Int) := by omega
  have d1 : ¬ (4096 : Int) < (n1 : Int) := by omega
  clear hrow hln hs1 hws hwz hv1
  go_enter Ybaf.func4, Ybaf.ntmps4
  refine wp_seq_k fun K hK => ?_
  have HKK : Hid _ := hK
  clear hK
  go_wp2
  refine HKK.out _ _ ?_
  clear HKK
  refine wp_seq_k fun K hK => ?_
  have HKK : Hid _ := hK
  clear hK
  go_wp2
  refine HKK.out _ _ ?_
  clear HKK
  refine wp_seq_k fun K hK => ?_
  have HKK : Hid _ := hK
  clear hK
  go_wp2
  refine HKK.out _ _ ?_
  exact tail3 h0 h1 hl HSP1.out ((Kept.refl _ w).alloc _) HLN.out hzn (Nat.le_refl _) HROW.out HWS.out HWZ.out HV1.out

theorem law_any (a0 a1 : Option Addr) (n0 k0 n1 k1 : Nat) (xs : List Sn) (zs : List Zl) (w : World) (hl : xs.length = n1) (hs1 : SpAt w a1 xs) (hln : LnAt w a0 zs) (hzn : zs.length = n0)
    (hws : WideS xs) (hwz : ∀ z ∈ zs, U64 z.site ∧ 0 ≤ z.depth ∧ z.depth ≤ 255) (hv1 : ∀ b, blkOf a1 = some b → b < w.heap.size) :
    Calls Ybaf.prog 4 #[.slice a0 n0 k0, .slice a1 n1 k1] w fun e w' => e = .returned (.bool true) ∧ Kept (fun _ => False) w w' := by
  by_cases d0 : (4096 : Int) < (n0 : Int)
  · exact law_big0 a0 a1 n0 k0 n1 k1 w d0
  · by_cases d1 : (4096 : Int) < (n1 : Int)
    · exact law_big1 a0 a1 n0 k0 n1 k1 w d0 d1
    · exact law_small a0 a1 n0 k0 n1 k1 xs zs w (by omega) (by omega) hl hs1 hln hzn hws hwz hv1

end Go.Proofs.YbulkdyyyFmt
