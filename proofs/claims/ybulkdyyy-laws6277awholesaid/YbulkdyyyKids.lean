/-
  Seat b6277a: what holds while the law makes its children.
-/
import Derived.Test.YbulkdyyyTail1
namespace Go.Proofs.Ybulkdyyy
open Go.RowKit
set_option linter.unusedVariables false

/-- A child all of whose blocks lie from B on. -/
def KidFrom (B : Nat) (w : World) (b : Nat) (x : Int) : Prop :=
  B ≤ b ∧ ((w.cell? ⟨b, 1, none⟩ = some (.slice none 0 0) ∧ ∃ gv m c, B ≤ gv ∧ w.cell? ⟨b, 0, none⟩ = some (.slice (some ⟨gv, 0, none⟩) (m + 1) c) ∧ m ≤ 2000000 ∧ w.cell? ⟨gv, m, none⟩ = some (.int .i64 x)) ∨
  (∃ ka kn kc gl, B ≤ gl ∧ w.cell? ⟨b, 1, none⟩ = some (.slice (some ka) kn kc) ∧ w.cell? ⟨b, 4, none⟩ = some (.slice (some ⟨gl, 0, none⟩) 1 1) ∧ w.cell? ⟨gl, 0, none⟩ = some (.int .i64 x)))

theorem KidFrom.ok {B : Nat} {w : World} {b : Nat} {x : Int} (h : KidFrom B w b x) : KidOk w b x := by
  obtain ⟨_, h⟩ := h
  rcases h with ⟨h1, gv, m, c, _, h2, h3, h4⟩ | ⟨ka, kn, kc, gl, _, h1, h2, h3⟩
  · exact .inl ⟨h1, gv, m, c, h2, h3, h4⟩
  · exact .inr ⟨ka, kn, kc, gl, h1, h2, h3⟩

theorem KidFrom.keep {B : Nat} {w w' : World} {b : Nat} {x : Int} (h : KidFrom B w b x) (hk : ∀ j, B ≤ j → j < w.heap.size → w'.heap[j]? = w.heap[j]?) : KidFrom B w' b x := by
  have hc : ∀ {p : Addr} {v : Value}, B ≤ p.block → w.cell? p = some v → w'.cell? p = some v := fun {p v} hB h => by
    rw [World.cell?_of_block (hk p.block hB (World.block_lt_of_cell? _ _ h))]; exact h
  obtain ⟨hb, h⟩ := h
  rcases h with ⟨h1, gv, m, c, h0, h2, h3, h4⟩ | ⟨ka, kn, kc, gl, h0, h1, h2, h3⟩
  · exact ⟨hb, .inl ⟨hc hb h1, gv, m, c, h0, hc hb h2, h3, hc h0 h4⟩⟩
  · exact ⟨hb, .inr ⟨ka, kn, kc, gl, h0, hc hb h1, hc hb h2, hc h0 h3⟩⟩

theorem own_below {w w' : World} {base : Nat} {e : TypeId} {size : Nat} {v : Value} {n : Nat} {xs : List Value} (h : w.ownsRow base e size v n xs) (hb : Below w.heap.size w w') : w'.ownsRow base e size v n xs :=
  h.kept (row := none) ⟨hb.os, hb.tape, hb.output, hb.size, fun k hk _ => hb.block k hk⟩ (by cases v.ownBlock <;> simp)

/-- What holds when k children have been made. -/
structure Kids (B : Nat) (w wr : World) (gk gl n k : Nat) (bs : List Nat) (xs : List Int) : Prop where
  below : Below w.heap.size w wr
  size : B ≤ wr.heap.size
  ownK : wr.ownsRow w.heap.size 28 1 (.slice (some ⟨gk, 0, none⟩) k n) k (bs.map (fun b => Value.pointer (some ⟨b, 0, none⟩)))
  ownL : wr.ownsRow w.heap.size 3 1 (.slice (some ⟨gl, 0, none⟩) k n) k (xs.map (Value.int .i64))
  ltK : gk < B
  ltL : gl < B
  ne : gk ≠ gl
  kid : ∀ j, j < k → KidFrom B wr (bs.getD j 0) (xs.getD j 0)

theorem Kids.lenK {B : Nat} {w wr : World} {gk gl n k : Nat} {bs : List Nat} {xs : List Int} (h : Kids B w wr gk gl n k bs xs) : bs.length = k := by simpa using h.ownK.1
theorem Kids.lenL {B : Nat} {w wr : World} {gk gl n k : Nat} {bs : List Nat} {xs : List Int} (h : Kids B w wr gk gl n k bs xs) : xs.length = k := by simpa using h.ownL.1

/-- The list of the children, behind the making of one child more: it is still the call's own. -/
theorem kids_ownK {B : Nat} {w wr w5 : World} {gk gl n k : Nat} {bs : List Nat} {xs : List Int} (h : Kids B w wr gk gl n k bs xs) (hb : Below wr.heap.size wr w5) (X : Obj) :
    (w5.alloc X).ownsRow w.heap.size 28 1 (.slice (some ⟨gk, 0, none⟩) k n) k (bs.map (fun b => Value.pointer (some ⟨b, 0, none⟩))) := (own_below h.ownK hb).alloc X

theorem kids_ownL {B : Nat} {w wr w5 w7 : World} {gk gl n k : Nat} {bs : List Nat} {xs : List Int} (h : Kids B w wr gk gl n k bs xs) (hb : Below wr.heap.size wr w5) (X : Obj) (hg : (w5.alloc X).grownBy w7 (some gk)) (Y : Obj) :
    (w7.alloc Y).ownsRow w.heap.size 3 1 (.slice (some ⟨gl, 0, none⟩) k n) k (xs.map (Value.int .i64)) :=
  (((own_below h.ownL hb).alloc X).kept hg (.inr (by simpa [Value.ownBlock] using fun e => h.ne e.symm))).alloc Y

theorem kids_step {B : Nat} {w wr w5 w7 w9 : World} {gk gl n k nb : Nat} {bs : List Nat} {xs : List Int} {x : Int} {X Y : Obj} (h : Kids B w wr gk gl n k bs xs) (hb : Below wr.heap.size wr w5) (hk : KidFrom B w5 nb x)
    (hg : (w5.alloc X).grownBy w7 (some gk)) (hoK : w7.ownsRow w.heap.size 28 1 (.slice (some ⟨gk, 0, none⟩) (k + 1) n) (k + 1) (bs.map (fun b => Value.pointer (some ⟨b, 0, none⟩)) ++ [.pointer (some ⟨nb, 0, none⟩)]))
    (hg' : (w7.alloc Y).grownBy w9 (some gl)) (hoL : w9.ownsRow w.heap.size 3 1 (.slice (some ⟨gl, 0, none⟩) (k + 1) n) (k + 1) (xs.map (Value.int .i64) ++ [.int .i64 x])) :
    Kids B w w9 gk gl n (k + 1) (bs ++ [nb]) (xs ++ [x]) := by
  have lk := h.ownK.lt _ rfl
  have ll := h.ownL.lt _ rfl
  have s5 := hb.size
  have s7 : w5.heap.size + 1 ≤ w7.heap.size := by simpa using hg.size
  have s9 : w7.heap.size + 1 ≤ w9.heap.size := by simpa using hg'.size
  have hsz := h.size
  have hw := h.below.size
  have b5 : Below w.heap.size w w5 := h.below.trans (hb.mono hw)
  have b7 : Below w.heap.size w w7 := (b5.alloc (by omega) X).grown hg (by simp; omega) (by intro j hj; cases hj; exact lk.1)
  have b9 : Below w.heap.size w w9 := (b7.alloc (by omega) Y).grown hg' (by simp; omega) (by intro j hj; cases hj; exact ll.1)
  have k59 : ∀ j, B ≤ j → j < w5.heap.size → w9.heap[j]? = w5.heap[j]? := fun j hB hj => by
    have := h.ltK
    have := h.ltL
    rw [hg'.block j (by simp; omega) (by simp; omega), Below.heap_alloc _ _ _ (by omega), hg.block j (by simp; omega) (by simp; omega), Below.heap_alloc _ _ _ hj]
  have hlk := h.lenK
  have hll := h.lenL
  refine ⟨b9, by omega, ?_, ?_, h.ltK, h.ltL, h.ne, fun j hj => ?_⟩
  · have := (hoK.alloc Y).kept hg' (.inr (by simpa [Value.ownBlock] using h.ne))
    simpa using this
  · simpa using hoL
  · by_cases hjk : j < k
    · have h1 : (bs ++ [nb]).getD j 0 = bs.getD j 0 := by simp [List.getElem?_append_left (show j < bs.length by omega)]
      have h2 : (xs ++ [x]).getD j 0 = xs.getD j 0 := by simp [List.getElem?_append_left (show j < xs.length by omega)]
      rw [h1, h2]
      refine (h.kid j hjk).keep fun i hB hi => ?_
      rw [k59 i hB (by omega), hb.block i hi]
    · obtain rfl : j = k := by omega
      have h1 : (bs ++ [nb]).getD j 0 = nb := by subst hlk; simp
      have h2 : (xs ++ [x]).getD j 0 = x := by rw [← hll]; simp
      rw [h1, h2]
      exact hk.keep k59

end Go.Proofs.Ybulkdyyy
