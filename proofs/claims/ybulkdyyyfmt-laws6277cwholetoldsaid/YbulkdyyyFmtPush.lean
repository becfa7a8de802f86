/-
  Seat b6277aF: clockRuns.push.
-/
import Derived.Test.YbulkdyyyFmtFind
import Derived.Deep.QuietTactic
import Derived.Deep.DeepCutAuto
import Derived.Deep.RegionHeld3
import Derived.Deep.RegionLaw
namespace Go.Proofs.YbulkdyyyFmt
open Go.RowKit Go.Sort Go.Shelf
set_option linter.unusedVariables false
set_option linter.unnecessarySimpa false

theorem Row.setAt {α : Type} {f : α → List Value} {s : Nat} (hf : ∀ x, (f x).length = s) {w : World} {b o n c : Nat} {xs : List α} (h : Row f s w (some ⟨b, o, none⟩) n c xs) {j t : Nat} {x x' : α} {v : Value} (hx : xs[j]? = some x) (ht : t < s) (he : f x' = (f x).set t v) :
    Row f s (w.setCell ⟨b, o + (j * s + t), none⟩ v) (some ⟨b, o, none⟩) n c (xs.set j x') := by
  refine ⟨by simpa using h.len, h.small, h.le, h.cmax, h.pos, by rw [flatMap_len hf, List.length_set, h.len], ?_⟩
  rcases h.row with ⟨h1, _⟩ | ⟨b', o', cs, h1, h2, h3, h4⟩
  · cases h1
  · cases h1
    refine .inr ⟨b, o, _, rfl, h2.set _ v, by simpa using h3, fun jj u hu => ?_⟩
    have hjl : j < n := by have := (List.getElem?_eq_some_iff.1 hx).1; have := h.len; omega
    have hin : j * s + t < c * s := by
      have h5 : (j + 1) * s ≤ c * s := Nat.mul_le_mul_right s (by have := h.le; omega)
      rw [Nat.add_mul] at h5
      omega
    obtain ⟨q, r, hr, rfl⟩ : ∃ q r, r < s ∧ jj = q * s + r := ⟨jj / s, jj % s, Nat.mod_lt _ h.pos, by rw [Nat.mul_comm]; exact (Nat.div_add_mod jj s).symm⟩
    rw [flatMap_get hf r hr] at hu
    rw [Array.getElem?_setIfInBounds]
    by_cases hq : q = j
    · subst hq
      rw [List.getElem?_set_self (by have := h.len; omega)] at hu
      simp only [Option.bind_some] at hu
      rw [he] at hu
      by_cases hrt : r = t
      · subst hrt
        rw [List.getElem?_set_self (by rw [hf]; omega)] at hu
        rw [if_pos rfl, if_pos (by omega)]
        exact hu
      · rw [List.getElem?_set_ne (by omega)] at hu
        rw [if_neg (by omega)]
        refine h4 _ _ ?_
        rw [flatMap_get hf r hr, hx]
        exact hu
    · rw [List.getElem?_set_ne (by omega)] at hu
      have hne : ¬ o + (j * s + t) = o + (q * s + r) := by
        intro e
        have e' : j * s + t = q * s + r := by omega
        have h6 : (j * s + t) / s = (q * s + r) / s := by rw [e']
        rw [Nat.mul_comm j, Nat.mul_comm q, Nat.mul_add_div h.pos, Nat.mul_add_div h.pos, Nat.div_eq_of_lt ht, Nat.div_eq_of_lt hr] at h6
        omega
      rw [if_neg hne]
      refine h4 _ _ ?_
      rw [flatMap_get hf r hr]
      exact hu

/-- A number of the kind uint32. -/
def U32 (k : Int) : Prop := 0 ≤ k ∧ k ≤ 4294967295

/-- What push gives. -/
def pushR (rs : List Rn) (r : Rn) : List Rn :=
  match rs[rs.length - 1]? with
  | none => rs ++ [r]
  | some l => if r.first ≤ l.last + 1 then rs.set (rs.length - 1) ⟨l.first, if l.last < r.last then r.last else l.last⟩ else rs ++ [r]

theorem info127 : (Ybaf.prog.info? 127).map (fun i => (i.zero, i.size, i.bytes)) = some (some (.agg #[.int .u32 0, .int .u32 0]), 2, 8) := by kernel_rfl
theorem one_cells2 {w : World} {b : Nat} {v0 v1 : Value} (h : Blk w b #[v0, v1]) : ∀ j u, [v0, v1][j]? = some u → w.cell? ((⟨b, 0, none⟩ : Addr).add j) = some u := by
  intro j u hu
  rw [Addr.add_lit, h.cell, Nat.zero_add]
  simpa using hu

theorem wu64 {n : Int} (h0 : 0 ≤ n) (h1 : n ≤ 18446744073709551615) : IntKind.u64.wrap n = n := by simp [IntKind.wrap, IntKind.bits, IntKind.signed]; omega

set_option maxRecDepth 100000 in
set_option maxHeartbeats 2000000 in
theorem push_any (a : Option Addr) (n c : Nat) (rs : List Rn) (r : Rn) (w : World) (hrow : Row Rn.cells 2 w a n c rs) (hn : n ≤ 4096) (hr1 : U32 r.first) (hr2 : U32 r.last) (hrs : ∀ x ∈ rs, U32 x.first ∧ U32 x.last) :
    Calls Ybaf.prog 41 #[.slice a n c, .agg #[.int .u32 r.first, .int .u32 r.last]] w fun e w' => ∃ a' n' c', e = .returned (.slice a' n' c') ∧ Row Rn.cells 2 w' a' n' c' (pushR rs r) ∧ NewAt w a a' ∧ Kept (fun k => blkOf a = some k) w w' := by
  obtain ⟨i0, hi0, hz0, hz1, hz2⟩ := info_parts info127
  have HROW : Hid (Row Rn.cells 2 w a n c rs) := hrow
  have hka : Kept (fun k => blkOf a = some k) w (w.alloc (.cells #[.int .u32 r.first, .int .u32 r.last] 127)) := (Kept.refl _ w).alloc _
  have hwn : IntKind.i64.wrap (n : Int) = n := w64 (by omega) (by omega)
  rcases Nat.eq_zero_or_pos n with rfl | hpos
  · have hx : rs = [] := List.length_eq_zero_iff.1 hrow.len
    subst hx
    clear hrow hrs
    go_enter Ybaf.func41, Ybaf.ntmps41
    go_wp2_with fail
    go_quiet (fail)
    obtain ⟨W, hW⟩ : ∃ W, ((w.alloc (.cells #[.int .u32 r.first, .int .u32 r.last] 127)).drewN nq) = W := ⟨_, rfl⟩
    have hkW : Kept (fun _ => False) w W := by rw [← hW]; exact ((Kept.refl _ w).alloc _).drewN nq
    have hbW : Blk W w.heap.size #[.int .u32 r.first, .int .u32 r.last] := by rw [← hW]; exact (Blk.new w _ 127).eqv rfl
    rw [hW]
    have HKW : Hid (Kept (fun _ => False) w W) := hkW
    have HBW : Hid (Blk W w.heap.size #[.int .u32 r.first, .int .u32 r.last]) := hbW
    have HRW : Hid (Row Rn.cells 2 W a 0 c []) := HROW.out.kept hkW (fun _ _ => id)
    have y0 : W.cell? ⟨w.heap.size, 0, none⟩ = some (.int .u32 r.first) := hbW.cell 0
    have y1 : W.cell? ⟨w.heap.size, 1, none⟩ = some (.int .u32 r.last) := hbW.cell 1
    clear hW hkW hbW
    go_wp2_with (at_builtin; refine wpList_append_row _ rfl (.tmp 39) (.tmp 41) 124 rfl rn_len rn_one 127 i0 (.agg #[.int .u32 0, .int .u32 0]) 8 Ybaf.underlying124 hi0 hz0 hz1 hz2 rfl a 0 c ([] : List Rn) rfl (HRW.out.alloc _) ⟨W.heap.size, 0, none⟩ 1 1 [r] rfl rfl (one_cells2 (by simpa using Blk.new W #[.int .u32 r.first, .int .u32 r.last] 127)) (by omega) (by omega) ?_; intro a5 c5 w5 hrow hgrow hnew hnone; have HR5 : Hid (Row Rn.cells 2 w5 a5 (0 + 1) c5 (([] : List Rn) ++ [r])) := hrow; have HG5 : Hid _ := hgrow; have HW5 : Hid _ := hnew; clear hrow hgrow hnew hnone)
    go_ret
    refine ⟨_, _, _, rfl, ?_, ?_, ?_⟩
    · show Row Rn.cells 2 w5 a5 1 c5 [r]
      exact HR5.out
    · intro b' hb'
      have hsz := HKW.out.size
      rcases HW5.out b' hb' with h | h
      · exact .inl h
      · simp at h
        exact .inr (by omega)
    · have hk5 : Kept (fun k => blkOf (a) = some k) w (W.alloc (.cells #[.int .u32 r.first, .int .u32 r.last] 127)) := (HKW.out.mono (fun _ => False.elim)).alloc _
      exact hk5.grown HG5.out (fun k e => e)
  · have hlen := hrow.len
    obtain ⟨b, o, rfl⟩ := hrow.some_of hpos
    obtain ⟨m, rfl⟩ : ∃ m, n = m + 1 := ⟨n - 1, by omega⟩
    obtain ⟨l, hl⟩ : ∃ l, rs[m]? = some l := ⟨_, List.getElem?_eq_getElem (by omega)⟩
    obtain ⟨hu1, hu2⟩ := hrs l (List.mem_of_getElem? hl)
    have c1 : w.cell? ⟨b, o + m * 2 + 1, none⟩ = some (.int .u32 l.last) := hrow.cell rn_len hl 1 (by omega)
    have hbl : b < w.heap.size := hrow.lt b rfl
    have hnb : b ≠ w.heap.size := by omega
    have hw1 : IntKind.u64.wrap l.last = l.last := wu64 (by have := hu2.1; omega) (by have := hu2.2; omega)
    have hw2 : IntKind.u64.wrap r.first = r.first := wu64 (by have := hr1.1; omega) (by have := hr1.2; omega)
    have hw3 : IntKind.u64.wrap (l.last + 1) = l.last + 1 := wu64 (by have := hu2.1; omega) (by have := hu2.2; omega)
    have hw4 : IntKind.i64.wrap ((m : Int) + 1) = (m : Int) + 1 := w64 (by omega) (by omega)
    have hw5 : IntKind.i64.wrap (m : Int) = m := w64 (by omega) (by omega)
    have HU1 : Hid _ := hu1
    have HU2 : Hid _ := hu2
    have HR1 : Hid _ := hr1
    have HR2 : Hid _ := hr2
    have HL : Hid _ := hl
    have HLEN : Hid _ := hlen
    clear hrow hrs hu1 hu2 hr1 hr2 hl hlen hka
    have hpe : pushR rs r = if r.first ≤ l.last + 1 then rs.set m ⟨l.first, if l.last < r.last then r.last else l.last⟩ else rs ++ [r] := by
      unfold pushR
      rw [HLEN.out, Nat.add_sub_cancel, HL.out]
    by_cases hcond : r.first ≤ l.last + 1
    · rw [if_pos hcond] at hpe
      obtain ⟨mx, hmx⟩ : ∃ mx, (if l.last < r.last then r.last else l.last) = mx := ⟨_, rfl⟩
      rw [hmx] at hpe
      rw [hpe]
      clear hpe
      go_enter Ybaf.func41, Ybaf.ntmps41
      go_wp2_with fail
      go_quiet (fail)
      obtain ⟨W, hW⟩ : ∃ W, ((w.alloc (.cells #[.int .u32 r.first, .int .u32 r.last] 127)).drewN nq) = W := ⟨_, rfl⟩
      have hkW : Kept (fun _ => False) w W := by rw [← hW]; exact ((Kept.refl _ w).alloc _).drewN nq
      have hbW : Blk W w.heap.size #[.int .u32 r.first, .int .u32 r.last] := by rw [← hW]; exact (Blk.new w _ 127).eqv rfl
      rw [hW]
      have HKW : Hid (Kept (fun _ => False) w W) := hkW
      have HBW : Hid (Blk W w.heap.size #[.int .u32 r.first, .int .u32 r.last]) := hbW
      have HRW : Hid (Row Rn.cells 2 W (some ⟨b, o, none⟩) (m + 1) c rs) := HROW.out.kept hkW (fun _ _ => id)
      have y0 : W.cell? ⟨w.heap.size, 0, none⟩ = some (.int .u32 r.first) := hbW.cell 0
      have y1 : W.cell? ⟨w.heap.size, 1, none⟩ = some (.int .u32 r.last) := hbW.cell 1
      clear hW hkW hbW
      have z1 := cell_keptF HKW.out c1
      have z2 : W.frozen? ⟨b, o + m * 2 + 1, none⟩ = false := by
        rcases HRW.out.row with ⟨h1, _⟩ | ⟨b', o', cs, h1, h2, h3, h4⟩
        · cases h1
        · cases h1
          exact h2.free _
      have hml : (m : Int) < (m : Int) + 1 := by omega
      clear c1 hcond
      go_upto_region 3 with (fail)
      go_region_law (fail)
      all_goals
        go_wp2_with fail
        go_ret
        refine ⟨_, _, _, rfl, ?_, fun b' hb' => .inl hb', ?_⟩
        · have h := HRW.out.setAt rn_len (x' := ⟨l.first, mx⟩) (v := .int .u32 mx) (t := 1) HL.out (by omega) rfl
          rw [← Nat.add_assoc] at h
          exact h.eqv (w' := (W.setCell ⟨b, o + m * 2 + 1, none⟩ (.int .u32 mx)).drew) (fun _ _ => rfl)
        · have hk6 : Kept (fun k => blkOf (some ⟨b, o, none⟩) = some k) w W := HKW.out.mono (fun _ => False.elim)
          exact (hk6.setCell (p := ⟨b, o + m * 2 + 1, none⟩) rfl _).drew
    · rw [if_neg hcond] at hpe
      rw [hpe]
      clear hpe
      have hcf : (decide (l.last + 1 ≥ r.first)) = false := by simpa using hcond
      have hcf2 : (decide (r.first ≤ l.last + 1)) = false := by simpa using hcond
      clear hcond
      go_enter Ybaf.func41, Ybaf.ntmps41
      go_wp2_with fail
      go_quiet (fail)
      obtain ⟨W, hW⟩ : ∃ W, ((w.alloc (.cells #[.int .u32 r.first, .int .u32 r.last] 127)).drewN nq) = W := ⟨_, rfl⟩
      have hkW : Kept (fun _ => False) w W := by rw [← hW]; exact ((Kept.refl _ w).alloc _).drewN nq
      have hbW : Blk W w.heap.size #[.int .u32 r.first, .int .u32 r.last] := by rw [← hW]; exact (Blk.new w _ 127).eqv rfl
      rw [hW]
      have HKW : Hid (Kept (fun _ => False) w W) := hkW
      have HBW : Hid (Blk W w.heap.size #[.int .u32 r.first, .int .u32 r.last]) := hbW
      have HRW : Hid (Row Rn.cells 2 W (some ⟨b, o, none⟩) (m + 1) c rs) := HROW.out.kept hkW (fun _ _ => id)
      have y0 : W.cell? ⟨w.heap.size, 0, none⟩ = some (.int .u32 r.first) := hbW.cell 0
      have y1 : W.cell? ⟨w.heap.size, 1, none⟩ = some (.int .u32 r.last) := hbW.cell 1
      clear hW hkW hbW
      go_wp2_with (at_builtin; refine wpList_append_row _ rfl (.tmp 39) (.tmp 41) 124 rfl rn_len rn_one 127 i0 (.agg #[.int .u32 0, .int .u32 0]) 8 Ybaf.underlying124 hi0 hz0 hz1 hz2 rfl (some ⟨b, o, none⟩) (m + 1) c rs rfl (HRW.out.alloc _) ⟨W.heap.size, 0, none⟩ 1 1 [r] rfl rfl (one_cells2 (by simpa using Blk.new W #[.int .u32 r.first, .int .u32 r.last] 127)) (by omega) (by omega) ?_; intro a5 c5 w5 hrow hgrow hnew hnone; have HR5 : Hid (Row Rn.cells 2 w5 a5 ((m + 1) + 1) c5 (rs ++ [r])) := hrow; have HG5 : Hid _ := hgrow; have HW5 : Hid _ := hnew; clear hrow hgrow hnew hnone)
      go_ret
      refine ⟨_, _, _, rfl, ?_, ?_, ?_⟩
      · skip
        exact HR5.out
      · intro b' hb'
        have hsz := HKW.out.size
        rcases HW5.out b' hb' with h | h
        · exact .inl h
        · simp at h
          exact .inr (by omega)
      · have hk5 : Kept (fun k => blkOf ((some ⟨b, o, none⟩)) = some k) w (W.alloc (.cells #[.int .u32 r.first, .int .u32 r.last] 127)) := (HKW.out.mono (fun _ => False.elim)).alloc _
        exact hk5.grown HG5.out (fun k e => e)

end Go.Proofs.YbulkdyyyFmt
