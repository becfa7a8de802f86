/-
  Seat b6277aF: what rope.Of leans on.
-/
import Derived.Test.YbulkdyyyFmtRanges
import Derived.Test.YbulkdyyyFmtStep
import Derived.Test.YbulkdyyyFmtLni
namespace Go.Proofs.YbulkdyyyFmt
open Go.RowKit Go.Shelf
set_option linter.unusedVariables false

/-- s[L:H]. -/
theorem Row.sub {α : Type} {f : α → List Value} {s : Nat} (hf : ∀ x, (f x).length = s) {w : World} {b o n c : Nat} {xs : List α} (h : Row f s w (some ⟨b, o, none⟩) n c xs) {L H : Nat} (h1 : L ≤ H) (h2 : H ≤ n) :
    Row f s w (some ⟨b, o + L * s, none⟩) (H - L) (c - L) ((xs.drop L).take (H - L)) := by
  have hl := h.len
  have hle := h.le
  refine ⟨by simp; omega, by have := h.small; omega, by omega, by have := h.cmax; omega, h.pos, by rw [flatMap_len hf]; simp; congr 1; omega, ?_⟩
  rcases h.row with ⟨h0, _⟩ | ⟨b', o', cs, h1', h2', h3, h4⟩
  · cases h0
  · cases h1'
    refine .inr ⟨b, _, cs, rfl, h2', ?_, fun j u hu => ?_⟩
    · have e : L * s + (c - L) * s = c * s := by rw [← Nat.add_mul]; congr 1; omega
      omega
    · have hd := h.dropCells hf L (by omega) j u (by
        have hpre : ((xs.drop L).take (H - L)).flatMap f <+: (xs.drop L).flatMap f := by
          conv => rhs; rw [← List.take_append_drop (H - L) (xs.drop L), List.flatMap_append]
          exact List.prefix_append _ _
        obtain ⟨t, ht⟩ := hpre
        rw [← ht, List.getElem?_append_left (List.getElem?_eq_some_iff.1 hu).1]
        exact hu)
      rw [Addr.add_lit, h2'.cell] at hd
      exact hd

theorem LeafIn.putN {α : Type} {f : α → List Value} {s D : Nat} {w : World} {b l : Nat} {vs : List α} {o o' : Obj} (h : LeafIn f s D w b vs) (hl : w.heap[l]? = some o) (hno : ∀ cs e fz, o ≠ .cells cs e fz) : LeafIn f s D (w.putObj l o') b vs := by
  obtain ⟨a, c, h1, h2, h3, h4⟩ := h
  exact ⟨a, c, h1, h2, h3.putN hl hno, h4.putN hl hno⟩
theorem LeafIn.alloc {α : Type} {f : α → List Value} {s D : Nat} {w : World} {b : Nat} {vs : List α} (h : LeafIn f s D w b vs) (o : Obj) : LeafIn f s D (w.alloc o) b vs := by
  obtain ⟨a, c, h1, h2, h3, h4⟩ := h
  exact ⟨a, c, h1, h2, h3.alloc _, h4.alloc _⟩

/-- The values of one part. -/
def cutAt {α : Type} (vs : List α) (x : Int × Int) : List α := (vs.drop x.1.toNat).take (x.2.toNat - x.1.toNat)

/-- What the first loop has laid. -/
structure Lvl {α : Type} (f : α → List Value) (s fb rb p D : Nat) (w4 : World) (vs : List α) (pre : List (Int × Int)) (X : World) (bs : List Nat) : Prop where
  box : Blk X fb #[.slice (some ⟨rb, 0, none⟩) pre.length p]
  row : Row ptrCells 1 X (some ⟨rb, 0, none⟩) pre.length p bs
  leaves : ∀ (i b : Nat) (q : Int × Int), bs[i]? = some b → pre[i]? = some q → LeafIn f s D X b (cutAt vs q)
  kb : Kb fb w4 X

section
variable {α : Type} {f : α → List Value} {s fb rb p D : Nat} {w4 X : World} {vs : List α} {pre : List (Int × Int)} {bs : List Nat}
theorem Lvl.box_blk (h : Lvl f s fb rb p D w4 vs pre X bs) : boxBlk X fb = some rb := by
  unfold boxBlk
  rw [h.box.cell 0]
  rfl
theorem Lvl.steady (hf : fb < w4.heap.size) : Steady w4.heap.size (fun pre X => ∃ bs, Lvl f s fb rb p D w4 vs pre X bs) :=
  ⟨fun pre X o ⟨bs, h⟩ => ⟨bs, h.box.alloc _, h.row.alloc _, fun i b q e1 e2 => (h.leaves i b q e1 e2).alloc _, h.kb.alloc h.box.lt _⟩,
   fun pre X q ⟨bs, h⟩ => ⟨bs, h.box.eqv rfl, h.row.eqv (fun _ _ => rfl), fun i b q e1 e2 => (h.leaves i b q e1 e2).eqv rfl, h.kb.drewN _⟩,
   fun pre X l r r' hl hr ⟨bs, h⟩ => ⟨bs, h.box.putN hr (fun _ _ _ e => by cases e), h.row.putN hr (fun _ _ _ e => by cases e), fun i b q e1 e2 => (h.leaves i b q e1 e2).putN hr (fun _ _ _ e => by cases e), h.kb.put hl hf _⟩,
   fun pre X l ds o hl hr ⟨bs, h⟩ => ⟨bs, h.box.putN hr (fun _ _ _ e => by cases e), h.row.putN hr (fun _ _ _ e => by cases e), fun i b q e1 e2 => (h.leaves i b q e1 e2).putN hr (fun _ _ _ e => by cases e), h.kb.put hl hf _⟩⟩
theorem Lvl.rows (h : Lvl f s fb rb p D w4 vs pre X bs) {k : Nat} (e : boxBlk X fb = some k) : ∃ cs e fz, X.heap[k]? = some (.cells cs e fz) := by
  rw [h.box_blk] at e
  cases e
  rcases h.row.row with ⟨h0, _⟩ | ⟨b, o, cs, h1, ⟨e', hb⟩, _⟩
  · cases h0
  · cases h1
    exact ⟨_, _, _, hb⟩
end

/-- The parts are neither empty nor too great. -/
theorem range_facts {n p k : Nat} (hp : partsOf n = p) (h0 : 0 < n) (hk : k < p) : k * n / p < (k + 1) * n / p ∧ (k + 1) * n / p ≤ k * n / p + 64 ∧ (k + 1) * n / p ≤ n := by
  unfold partsOf at hp
  have hp0 : 0 < p := by omega
  have h1 : p ≤ n := by omega
  have h2 : n ≤ 64 * p := by omega
  have e : (k + 1) * n = k * n + n := by rw [Nat.add_mul, Nat.one_mul]
  rw [e]
  refine ⟨?_, ?_, ?_⟩
  · have h3 : (k * n + p) / p ≤ (k * n + n) / p := Nat.div_le_div_right (by omega)
    rw [Nat.add_div_right _ hp0] at h3
    omega
  · have h3 : (k * n + n) / p ≤ (k * n + 64 * p) / p := Nat.div_le_div_right (by omega)
    rw [Nat.add_mul_div_right _ _ hp0] at h3
    exact h3
  · refine Nat.div_le_of_le_mul ?_
    rw [← e]
    exact Nat.mul_le_mul_right n (by omega)

theorem rangeAt_nat (n p k : Nat) : rangeAt n p k = (((k * n / p : Nat) : Int), (((k + 1) * n / p : Nat) : Int)) := by
  unfold rangeAt
  push_cast
  rfl

theorem ranges_at {n p : Nat} {pre : List (Int × Int)} {x : Int × Int} (h : pre ++ [x] <+: rangesOf n p) : pre = (List.range pre.length).map (rangeAt n p) ∧ pre.length < p ∧ x = rangeAt n p pre.length := by
  have hl := h.length_le
  simp [rangesOf] at hl
  have he := List.prefix_iff_eq_take.1 h
  have hx : (pre ++ [x])[pre.length]? = some x := by simp
  rw [he] at hx
  refine ⟨?_, by omega, ?_⟩
  · have h2 : pre <+: rangesOf n p := (List.prefix_append pre [x]).trans h
    have h3 := List.prefix_iff_eq_take.1 h2
    conv => lhs; rw [h3]
    unfold rangesOf
    rw [← List.map_take, List.take_range, Nat.min_eq_left (by omega)]
  · simp [rangesOf] at hx
    obtain ⟨a, ha, rfl⟩ := hx
    rw [List.getElem?_range (by omega)] at ha
    cases ha
    rfl

end Go.Proofs.YbulkdyyyFmt
