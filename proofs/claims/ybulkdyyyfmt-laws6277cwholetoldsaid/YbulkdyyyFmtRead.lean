/-
  Seat b6277aF: the arguments as they are read.
-/
import Derived.Test.YbulkdyyyFmtL0
import Derived.ProofKit
import Derived.OpenShut
import Derived.ChangeArms
import Derived.Deep.Slices
namespace Go.Proofs.YbulkdyyyFmt
open Go.ChangeShapes Go.WideShapes Go.ChangeAt Go.RowKit Go.Deep
set_option linter.unusedVariables false

theorem cells81 : Ybaf.prog.cellsOf 81 = 3 := by kernel_rfl
theorem cells42 : Ybaf.prog.cellsOf 42 = 4 := by kernel_rfl
theorem cells39 : Ybaf.prog.cellsOf 39 = 1 := by kernel_rfl
theorem cells40 : Ybaf.prog.cellsOf 40 = 1 := by kernel_rfl
theorem cells5 : Ybaf.prog.cellsOf 5 = 1 := by kernel_rfl
theorem cells9 : Ybaf.prog.cellsOf 9 = 1 := by kernel_rfl

theorem u32_of {n : Int} (h : (Lit.int .u32 n).wf = true) : U32 n := by
  simp [Lit.wf, IntKind.min, IntKind.max, IntKind.bits, IntKind.signed] at h
  exact ⟨by omega, by omega⟩
theorem u8_of {n : Int} (h : (Lit.int .u8 n).wf = true) : 0 ≤ n ∧ n ≤ 255 := by
  simp [Lit.wf, IntKind.min, IntKind.max, IntKind.bits, IntKind.signed] at h
  exact ⟨by omega, by omega⟩

theorem slice_lt {P : Program} {w : World} {r : Reach} {base : Nat} {t e : TypeId} {a : Addr} {n c : Nat} (ht : P.underlying t = some (.slice e)) (h : Value.okWide P w r base t (.slice (some a) n c)) : a.block < w.heap.size := by
  simp only [Value.okWide, ht, Cell.okWide, Cell.ok] at h
  obtain ⟨_, _, _, _, row, cells, hs, _⟩ := h
  unfold World.shape? at hs
  cases hb : w.heap[a.block]? with
  | none => simp [hb] at hs
  | some o => exact (Array.getElem?_eq_some_iff.1 hb).1

section
variable {H : Type} {enc : TypeId × Value → H} {w : World} {base : Nat} {spare : Nat → Bool} {held : Bool}

set_option maxRecDepth 100000 in
theorem spans_pre {fuel : Nat} {v : Value} {x : DataW H × List MemPlace} (h : DataW.trod enc Ybaf.prog w base spare held fuel 35 [v] = some x) :
    ∃ a n c xs, v = .slice a n c ∧ xs.length = n ∧ SpAt w a xs ∧ WideS xs := by
  rcases open_slice Ybaf.underlying35 h with ⟨hcs, _⟩ | ⟨a, len, cap, m, k, D, Pl, hcs, hb, hl, hm, hmm, _, hx⟩
  · cases hcs
    exact ⟨none, 0, 0, [], rfl, rfl, .inl rfl, fun s hs => by cases hs⟩
  · cases hcs
    have hlm : len ≤ m := by rw [hmm]; split <;> omega
    have each : ∀ i, i < len → ∃ q : Int × Int × Int, (w.cell? (a.add (i * 3)) = some (.int .u64 q.1) ∧ w.cell? (a.add (i * 3 + 1)) = some (.int .u32 q.2.1) ∧ w.cell? (a.add (i * 3 + 2)) = some (.int .u32 q.2.2)) ∧ U64 q.1 ∧ U32 q.2.1 ∧ U32 q.2.2 := by
      intro i hi
      obtain ⟨cs', h1, h2⟩ := hx i (by omega)
      rw [cells81] at h1
      obtain ⟨_, hlen, hcell⟩ := World.cells?_some h1
      obtain ⟨ys, k', _, _, _, hxl, hf⟩ := DataW.trod_struct Ybaf.underlying81 h2
      match ys, hxl, cs', hlen with
      | [y0, y1, y2], _, [v0, v1, v2], _ =>
        have g0 := hf 0 _ rfl
        have g1 := hf 1 _ rfl
        have g2 := hf 2 _ rfl
        simp [cells39, cells40] at g0 g1 g2
        obtain ⟨z0, e0, _, w0⟩ := DataW.trod_int Ybaf.underlying39 g0
        obtain ⟨z1, e1, _, w1⟩ := DataW.trod_int Ybaf.underlying40 g1
        obtain ⟨z2, e2, _, w2⟩ := DataW.trod_int Ybaf.underlying40 g2
        cases e0
        cases e1
        cases e2
        have d0 := hcell 0 (by omega)
        have d1 := hcell 1 (by omega)
        have d2 := hcell 2 (by omega)
        rw [add_add] at d0 d1 d2
        exact ⟨(z0, z1, z2), ⟨by simpa using d0, by simpa using d1, by simpa using d2⟩, w0, u32_of w1, u32_of w2⟩
    obtain ⟨q, hq⟩ := choose_lt each
    refine ⟨some a, len, cap, (List.range len).map (fun i => ⟨(q i).1, (q i).2.1, (q i).2.2⟩), rfl, by simp, ?_, ?_⟩
    · rcases Nat.eq_zero_or_pos len with rfl | hpos
      · exact .inl (by simp)
      · obtain ⟨b, o, s⟩ := a
        have hs : s = none := by simpa [Addr.add] using World.cell?_spot (hq 0 hpos).1.1
        subst hs
        refine .inr ⟨b, o, rfl, fun i y hy => ?_⟩
        rw [List.getElem?_map] at hy
        obtain ⟨j, hj, rfl⟩ := Option.map_eq_some_iff.1 hy
        have hil : i < len := by simpa using (List.getElem?_eq_some_iff.1 hj).1
        rw [List.getElem?_range hil] at hj
        cases hj
        obtain ⟨⟨e0, e1, e2⟩, _⟩ := hq i hil
        rw [Addr.add_lit] at e0 e1 e2
        exact ⟨e0, by simpa [Nat.add_assoc] using e1, by simpa [Nat.add_assoc] using e2⟩
    · intro s hs
      simp only [List.mem_map, List.mem_range] at hs
      obtain ⟨i, hi, rfl⟩ := hs
      exact (hq i hi).2

set_option maxRecDepth 100000 in
theorem lines_pre {fuel : Nat} {v : Value} {x : DataW H × List MemPlace} (h : DataW.trod enc Ybaf.prog w base spare held fuel 34 [v] = some x) :
    ∃ a n c zs, v = .slice a n c ∧ zs.length = n ∧ LnAt w a zs ∧ ∀ z ∈ zs, U64 z.site ∧ 0 ≤ z.depth ∧ z.depth ≤ 255 := by
  rcases open_slice Ybaf.underlying34 h with ⟨hcs, _⟩ | ⟨a, len, cap, m, k, D, Pl, hcs, hb, hl, hm, hmm, _, hx⟩
  · cases hcs
    exact ⟨none, 0, 0, [], rfl, rfl, .inl rfl, fun s hs => by cases hs⟩
  · cases hcs
    have hlm : len ≤ m := by rw [hmm]; split <;> omega
    have each : ∀ i, i < len → ∃ q : Int × Int × Int × ByteArray, (w.cell? (a.add (i * 4)) = some (.int .u64 q.1) ∧ w.cell? (a.add (i * 4 + 1)) = some (.int .u32 q.2.1) ∧ w.cell? (a.add (i * 4 + 2)) = some (.int .u8 q.2.2.1) ∧ w.cell? (a.add (i * 4 + 3)) = some (.string q.2.2.2)) ∧ U64 q.1 ∧ 0 ≤ q.2.2.1 ∧ q.2.2.1 ≤ 255 := by
      intro i hi
      obtain ⟨cs', h1, h2⟩ := hx i (by omega)
      rw [cells42] at h1
      obtain ⟨_, hlen, hcell⟩ := World.cells?_some h1
      obtain ⟨ys, k', _, _, _, hxl, hf⟩ := DataW.trod_struct Ybaf.underlying42 h2
      match ys, hxl, cs', hlen with
      | [y0, y1, y2, y3], _, [v0, v1, v2, v3], _ =>
        have g0 := hf 0 _ rfl
        have g1 := hf 1 _ rfl
        have g2 := hf 2 _ rfl
        have g3 := hf 3 _ rfl
        simp [cells39, cells40, cells5, cells9] at g0 g1 g2 g3
        obtain ⟨z0, e0, _, w0⟩ := DataW.trod_int Ybaf.underlying39 g0
        obtain ⟨z1, e1, _, w1⟩ := DataW.trod_int Ybaf.underlying40 g1
        obtain ⟨z2, e2, _, w2⟩ := DataW.trod_int Ybaf.underlying5 g2
        obtain ⟨z3, e3, _, w3⟩ := DataW.trod_string Ybaf.underlying9 g3
        cases e0
        cases e1
        cases e2
        cases e3
        have d0 := hcell 0 (by omega)
        have d1 := hcell 1 (by omega)
        have d2 := hcell 2 (by omega)
        have d3 := hcell 3 (by omega)
        rw [add_add] at d0 d1 d2 d3
        exact ⟨(z0, z1, z2, z3), ⟨by simpa using d0, by simpa using d1, by simpa using d2, by simpa using d3⟩, w0, u8_of w2⟩
    obtain ⟨q, hq⟩ := choose_lt each
    refine ⟨some a, len, cap, (List.range len).map (fun i => ⟨(q i).1, (q i).2.1, (q i).2.2.1, (q i).2.2.2⟩), rfl, by simp, ?_, ?_⟩
    · rcases Nat.eq_zero_or_pos len with rfl | hpos
      · exact .inl (by simp)
      · obtain ⟨b, o, s⟩ := a
        have hs : s = none := by simpa [Addr.add] using World.cell?_spot (hq 0 hpos).1.1
        subst hs
        refine .inr ⟨b, o, rfl, fun i y hy => ?_⟩
        rw [List.getElem?_map] at hy
        obtain ⟨j, hj, rfl⟩ := Option.map_eq_some_iff.1 hy
        have hil : i < len := by simpa using (List.getElem?_eq_some_iff.1 hj).1
        rw [List.getElem?_range hil] at hj
        cases hj
        obtain ⟨⟨e0, e1, e2, e3⟩, _⟩ := hq i hil
        rw [Addr.add_lit] at e0 e1 e2 e3
        exact ⟨e0, by simpa [Nat.add_assoc] using e1, by simpa [Nat.add_assoc] using e2, by simpa [Nat.add_assoc] using e3⟩
    · intro s hs
      simp only [List.mem_map, List.mem_range] at hs
      obtain ⟨i, hi, rfl⟩ := hs
      exact (hq i hi).2
end

end Go.Proofs.YbulkdyyyFmt
