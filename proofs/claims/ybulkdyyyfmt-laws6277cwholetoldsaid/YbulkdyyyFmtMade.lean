/-
  Seat b6277aF: make([]T, n).
-/
import Derived.Test.YbulkdyyyFmtNode
import Derived.Laws.MakeOwn
namespace Go.Proofs.YbulkdyyyFmt
open Go.RowKit
set_option linter.unusedVariables false

theorem run_made {P : Program} {α : Type} {f : α → List Value} {size : Nat} (x0 : α) (hf : ∀ x, (f x).length = size) (hp : 0 < size) (t e : TypeId) (z : Value) (bytes : Nat) (ht : P.underlying t = some (.slice e)) (hi : (P.info? e).map (fun i => (i.zero, i.size, i.bytes)) = some (some z, size, bytes)) (hz : z.cells.toList = f x0)
    (kl kc : IntKind) (n : Nat) (hn : n ≤ 2000000) (hb : bytes ≤ 1000) (w : World) :
    (Instr.makeSlice t (.int kl n) (.int kc n)).run P w = .ok (.slice (some ⟨w.heap.size, 0, none⟩) n n) (w.alloc (.cells (madeCells z.cells (n * size)) e)) ∧
      Row f size (w.alloc (.cells (madeCells z.cells (n * size)) e)) (some ⟨w.heap.size, 0, none⟩) n n (List.replicate n x0) := by
  obtain ⟨i, hi1, hi2⟩ := Option.map_eq_some_iff.1 hi
  simp only [Prod.mk.injEq] at hi2
  obtain ⟨h1, h2, h3⟩ := hi2
  have hby : (i.bytes : Int) * (n : Int) ≤ 281474976710656 := by
    have h : i.bytes * n ≤ 281474976710656 := Nat.le_trans (Nat.mul_le_mul (show i.bytes ≤ 1000 by omega) hn) (by decide)
    have h' : ((i.bytes * n : Nat) : Int) ≤ 281474976710656 := by omega
    rwa [Int.natCast_mul] at h'
  refine ⟨?_, ?_⟩
  · have := run_make (P := P) w t e i z ht hi1 h1 kl kc n n (by omega) (by omega) hby (by omega)
    simpa [h2] using this
  · refine ⟨by simp, hn, Nat.le_refl _, by unfold maxLen; omega, hp, by rw [flatMap_len hf]; simp, .inr ⟨w.heap.size, 0, _, rfl, Blk.new w _ e, by simp [size_madeCells], fun j u hu => ?_⟩⟩
    have hzs : z.cells.size = size := by
      rw [← hf x0, ← hz]
      simp
    obtain ⟨q, r, hr, rfl⟩ : ∃ q r, r < size ∧ j = q * size + r := ⟨j / size, j % size, Nat.mod_lt _ hp, by rw [Nat.mul_comm]; exact (Nat.div_add_mod j size).symm⟩
    have hjl : q * size + r < n * size := by
      have h5 := (List.getElem?_eq_some_iff.1 hu).1
      rw [flatMap_len hf] at h5
      simpa using h5
    rw [flatMap_get hf r hr] at hu
    have hmod : (q * size + r) % size = r := by rw [Nat.mul_comm, Nat.mul_add_mod]; exact Nat.mod_eq_of_lt hr
    rw [Nat.zero_add]
    unfold madeCells
    rw [Array.getElem?_map, Array.getElem?_range, if_pos hjl]
    simp only [Option.map_some, hzs, hmod]
    rw [List.getElem?_replicate] at hu
    split at hu
    · simp only [Option.bind_some] at hu
      rw [← hz] at hu
      rw [getElem!_pos z.cells r (by omega), ← Array.getElem?_eq_getElem]
      simpa using hu
    · simp at hu

theorem run_made0 {P : Program} {α : Type} {f : α → List Value} {size : Nat} (hf : ∀ x, (f x).length = size) (hp : 0 < size) (t e : TypeId) (z : Value) (bytes : Nat) (ht : P.underlying t = some (.slice e)) (hi : (P.info? e).map (fun i => (i.zero, i.size, i.bytes)) = some (some z, size, bytes))
    (kl kc : IntKind) (c : Nat) (hn : c ≤ 2000000) (hb : bytes ≤ 1000) (w : World) :
    (Instr.makeSlice t (.int kl 0) (.int kc c)).run P w = .ok (.slice (some ⟨w.heap.size, 0, none⟩) 0 c) (w.alloc (.cells (madeCells z.cells (c * size)) e)) ∧
      Row f size (w.alloc (.cells (madeCells z.cells (c * size)) e)) (some ⟨w.heap.size, 0, none⟩) 0 c [] := by
  obtain ⟨i, hi1, hi2⟩ := Option.map_eq_some_iff.1 hi
  simp only [Prod.mk.injEq] at hi2
  obtain ⟨h1, h2, h3⟩ := hi2
  have hby : (i.bytes : Int) * (c : Int) ≤ 281474976710656 := by
    have h : i.bytes * c ≤ 281474976710656 := Nat.le_trans (Nat.mul_le_mul (show i.bytes ≤ 1000 by omega) hn) (by decide)
    have h' : ((i.bytes * c : Nat) : Int) ≤ 281474976710656 := by omega
    rwa [Int.natCast_mul] at h'
  refine ⟨?_, ?_⟩
  · have := run_make (P := P) w t e i z ht hi1 h1 kl kc 0 c (by omega) (by omega) hby (by omega)
    simpa [h2] using this
  · exact ⟨rfl, by omega, Nat.zero_le _, by unfold maxLen; omega, hp, by simp, .inr ⟨w.heap.size, 0, _, rfl, Blk.new w _ e, by simp [size_madeCells], fun j u hu => by simp at hu⟩⟩

end Go.Proofs.YbulkdyyyFmt
