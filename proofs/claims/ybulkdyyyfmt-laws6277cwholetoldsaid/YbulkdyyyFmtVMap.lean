/-
  Seat b6277aF: a map with uint64 keys, as a function.
-/
import Derived.Test.YbulkdyyyFmtFind
import Derived.Maps.OwnSet
import Derived.Maps.RangeWalk
namespace Go.Proofs.YbulkdyyyFmt
open Go.RowKit Go.Maps
set_option linter.unusedVariables false

/-- An element as it is. -/
def rawElem (v : Value) : Option (DataW Value × List MemPlace) := some (.held v, [])
theorem rawElem_inv {v : Value} {z : DataW Value × List MemPlace} (h : rawElem v = some z) : z = (.held v, []) := (Option.some.inj h).symm

theorem key39 : Keyed Ybaf.prog 39 := Maps.int_keyed Ybaf.underlying39
/-- A number of the kind uint64. -/
def U64 (k : Int) : Prop := (Lit.int .u64 k).wf = true
theorem keyOf39 {k : Int} (h : U64 k) : keyOf Ybaf.prog 39 (.int .u64 k) = some (.int .u64 k) := Maps.keyOf_int_mk Ybaf.underlying39 h

/-- Block b is the map f. -/
def VM (w : World) (b n : Nat) (f : Int → Option Value) : Prop :=
  ∃ D, w.ownsMap Ybaf.prog 39 rawElem b n D ∧ (∀ k, U64 k → Maps.has D (.int .u64 k) = (f k).isSome) ∧ ∀ k v, U64 k → f k = some v → ∀ d, D.atKey (.int .u64 k) d = .held v

theorem VM.lt {w : World} {b n : Nat} {f : Int → Option Value} (h : VM w b n f) : b < w.heap.size := by
  obtain ⟨D, h, _⟩ := h
  exact h.lt
theorem VM.eqv {w w' : World} {b n : Nat} {f : Int → Option Value} (h : VM w b n f) (he : w'.heap[b]? = w.heap[b]?) : VM w' b n f := by
  obtain ⟨D, ⟨es, clock, h1, h2⟩, h3⟩ := h
  exact ⟨D, ⟨es, clock, he.trans h1, h2⟩, h3⟩
theorem VM.kept {G : Nat → Prop} {w w' : World} {b n : Nat} {f : Int → Option Value} (h : VM w b n f) (hk : Kept G w w') (hb : ¬ G b) : VM w' b n f := h.eqv (hk.block b h.lt hb)
theorem VM.alloc {w : World} {b n : Nat} {f : Int → Option Value} (h : VM w b n f) (o : Obj) : VM (w.alloc o) b n f := h.eqv (Below.heap_alloc _ _ _ h.lt)
theorem VM.made (w : World) : VM (w.alloc (.map #[] 0)) w.heap.size 0 (fun _ => none) :=
  ⟨_, World.ownsMap_made w _ _ _, fun k h => by simp [has_eq], fun k v _ h => by cases h⟩
theorem VM.mono {w : World} {b n n' : Nat} {f : Int → Option Value} (h : VM w b n f) (hn : n ≤ n') : VM w b n' f := by
  obtain ⟨D, h1, h2⟩ := h
  exact ⟨D, h1.mono hn, h2⟩

theorem VM.look {w : World} {b n : Nat} {f : Int → Option Value} (h : VM w b n f) {t e : TypeId} (ht : Ybaf.prog.underlying t = some (.map 39 e)) {z : Value} (hz : (zeroValue e).run Ybaf.prog w = .ok z w) {k : Int} (hk : U64 k) :
    (Instr.lookup t (.map (some b)) (.int .u64 k) false).run Ybaf.prog w = .ok ((f k).getD z) w := by
  obtain ⟨D, h1, h2, h3⟩ := h
  obtain ⟨v, ps, hrun, hv⟩ := h1.lookup key39 ht hz (zd := .held z) (zp := []) rfl (keyOf39 hk)
  rw [hrun]
  have hv' := rawElem_inv hv
  simp only [Prod.mk.injEq] at hv'
  cases hf : f k with
  | none =>
    have hno := h2 k hk
    rw [hf] at hno
    rw [atKey_of_not_has hno] at hv'
    cases hv'.1
    rfl
  | some x =>
    rw [h3 k x hk hf] at hv'
    cases hv'.1
    rfl

theorem VM.put {w : World} {b n : Nat} {f : Int → Option Value} (h : VM w b n f) {t e : TypeId} (ht : Ybaf.prog.underlying t = some (.map 39 e)) (hn : n < maxLen) {k : Int} (hk : U64 k) (v : Value) :
    ∃ w', (Instr.mapUpdate t (.map (some b)) (.int .u64 k) v).run Ybaf.prog w = .ok () w' ∧ VM w' b (n + 1) (fun j => if j = k then some v else f j) ∧ w.grownBy w' (some b) ∧ w'.heap.size = w.heap.size := by
  obtain ⟨D, h1, h2, h3⟩ := h
  obtain ⟨w', hrun, r1, r2⟩ := h1.store key39 ht hn (keyOf39 hk) (d := .held v) (ps := []) rfl
  have hkl := key39.key (keyOf39 hk)
  refine ⟨w', hrun, ⟨_, r1, fun j hj => ?_, fun j u hj hu d => ?_⟩, r2.grown, ?_⟩
  · dsimp only
    by_cases he : j = k
    · subst he
      rw [has_put_same h1.isMap hkl, if_pos rfl]
      rfl
    · rw [has_put_other (fun e => he (by cases e; rfl)), h2 j hj, if_neg he]
  · dsimp only at hu
    by_cases he : j = k
    · subst he
      rw [if_pos rfl] at hu
      cases hu
      exact atKey_put_same h1.isMap hkl _ _
    · rw [if_neg he] at hu
      rw [atKey_put_other (fun e => he (by cases e; rfl)), h3 j u hj hu]
  · obtain ⟨_, _, _, _, _, rfl⟩ := r2
    simp [ChangeMaps.setBlock]

theorem VM.len {w : World} {b n : Nat} {f : Int → Option Value} (h : VM w b n f) {t e : TypeId} (ht : Ybaf.prog.underlying t = some (.map 39 e)) (ty : TypeId) :
    ∃ m : Nat, m ≤ n ∧ (Builtin.len_ #[t] ty #[.map (some b)]).run Ybaf.prog w = .ok (.int .i64 m) w := by
  obtain ⟨D, h1, _⟩ := h
  exact ⟨_, h1.size_le, h1.len ht ty⟩

end Go.Proofs.YbulkdyyyFmt
