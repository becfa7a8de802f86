/-
  Seat b6272aD: rows of structs that a call owns, at whatever offset; appending to them; what stays.
-/
import Derived.Test.YbulkdywgDoorBase
import Derived.ArgAppend
namespace Go.Proofs.YbulkdywgDoor
open Go.RowKit
set_option linter.unusedVariables false

/-- Block b is a row of these cells, none frozen. -/
def Blk (w : World) (b : Nat) (cs : Array Value) : Prop := ∃ e, w.heap[b]? = some (.cells cs e (0, 0))

theorem Blk.cell {w : World} {b : Nat} {cs : Array Value} (h : Blk w b cs) (k : Nat) : w.cell? ⟨b, k, none⟩ = cs[k]? := by
  obtain ⟨e, h⟩ := h
  exact cell_of_row w b k cs e _ h
theorem Blk.free {w : World} {b : Nat} {cs : Array Value} (h : Blk w b cs) (k : Nat) : w.frozen? ⟨b, k, none⟩ = false := by
  obtain ⟨e, h⟩ := h
  exact frozen_of_row w b k cs e h
theorem Blk.lt {w : World} {b : Nat} {cs : Array Value} (h : Blk w b cs) : b < w.heap.size := by
  obtain ⟨e, h⟩ := h
  exact (Array.getElem?_eq_some_iff.1 h).1
theorem Blk.set {w : World} {b : Nat} {cs : Array Value} (h : Blk w b cs) (k : Nat) (v : Value) : Blk (w.setCell ⟨b, k, none⟩ v) b (cs.setIfInBounds k v) := by
  obtain ⟨e, h⟩ := h
  exact ⟨e, heap_setCell_same w b k cs e v h⟩
theorem Blk.other {w : World} {b : Nat} {cs : Array Value} (h : Blk w b cs) {b' : Nat} (hb : b ≠ b') (k : Nat) (v : Value) : Blk (w.setCell ⟨b', k, none⟩ v) b cs := by
  obtain ⟨e, h⟩ := h
  exact ⟨e, (heap_setCell_other w _ b v hb).trans h⟩
theorem Blk.eqv {w w' : World} {b : Nat} {cs : Array Value} (h : Blk w b cs) (he : w'.heap[b]? = w.heap[b]?) : Blk w' b cs := by
  obtain ⟨e, h⟩ := h
  exact ⟨e, he.trans h⟩

theorem Blk.setCells {b : Nat} : ∀ (vs : List Value) (o : Nat) (w : World) (cs : Array Value), Blk w b cs → o + vs.length ≤ cs.size →
    ∃ cs', Blk (w.setCells b o vs) b cs' ∧ cs'.size = cs.size ∧ (∀ j, j < o ∨ o + vs.length ≤ j → cs'[j]? = cs[j]?) ∧ ∀ j, j < vs.length → cs'[o + j]? = vs[j]?
  | [], o, w, cs, h, hl => ⟨cs, h, rfl, fun _ _ => rfl, fun j hj => by simp at hj⟩
  | v :: r, o, w, cs, h, hl => by
    simp only [List.length_cons] at hl
    obtain ⟨cs', h1, h2, h3, h4⟩ := Blk.setCells r (o + 1) _ _ (h.set o v) (by simp; omega)
    refine ⟨cs', h1, by simpa using h2, fun j hj => ?_, fun j hj => ?_⟩
    · simp only [List.length_cons] at hj
      rw [h3 j (by omega), Array.getElem?_setIfInBounds_ne (by omega)]
    · cases j with
      | zero => rw [Nat.add_zero, h3 o (by omega), Array.getElem?_setIfInBounds_self_of_lt (by omega)]; rfl
      | succ j =>
        simp only [List.length_cons] at hj
        rw [show o + (j + 1) = o + 1 + j by omega, h4 j (by omega)]
        rfl

theorem heap_setCells_other {b k : Nat} (hk : k ≠ b) : ∀ (vs : List Value) (o : Nat) (w : World), (w.setCells b o vs).heap[k]? = w.heap[k]?
  | [], _, _ => rfl
  | v :: r, o, w => (heap_setCells_other hk r (o + 1) _).trans (heap_setCell_other w _ k v hk)
theorem size_setCells' {b : Nat} : ∀ (vs : List Value) (o : Nat) (w : World), (w.setCells b o vs).heap.size = w.heap.size
  | [], _, _ => rfl
  | v :: r, o, w => (size_setCells' r (o + 1) _).trans (by simp [World.setCell])
theorem tape_setCells' {b : Nat} : ∀ (vs : List Value) (o : Nat) (w : World), (w.setCells b o vs).tape = w.tape
  | [], _, _ => rfl
  | v :: r, o, w => (tape_setCells' r (o + 1) _).trans rfl
theorem os_setCells' {b : Nat} : ∀ (vs : List Value) (o : Nat) (w : World), (w.setCells b o vs).os = w.os
  | [], _, _ => rfl
  | v :: r, o, w => (os_setCells' r (o + 1) _).trans rfl
theorem out_setCells' {b : Nat} : ∀ (vs : List Value) (o : Nat) (w : World), (w.setCells b o vs).output = w.output
  | [], _, _ => rfl
  | v :: r, o, w => (out_setCells' r (o + 1) _).trans rfl
theorem grown_setCells (w : World) (b o : Nat) (vs : List Value) : w.grownBy (w.setCells b o vs) (some b) :=
  ⟨os_setCells' _ _ _, tape_setCells' _ _ _, out_setCells' _ _ _, Nat.le_of_eq (size_setCells' _ _ _).symm, fun k _ hk => heap_setCells_other (fun e => hk (by rw [e])) _ _ _⟩

/-- Only blocks of G have turned, of those that were there. -/
structure Kept (G : Nat → Prop) (w w' : World) : Prop where
  os : w'.os = w.os
  tape : w'.tape = w.tape
  output : w'.output = w.output
  size : w.heap.size ≤ w'.heap.size
  block : ∀ k, k < w.heap.size → ¬ G k → w'.heap[k]? = w.heap[k]?

theorem Kept.refl (G : Nat → Prop) (w : World) : Kept G w w := ⟨rfl, rfl, rfl, Nat.le_refl _, fun _ _ _ => rfl⟩
theorem Kept.trans {G : Nat → Prop} {a b c : World} (h : Kept G a b) (k : Kept G b c) : Kept G a c :=
  ⟨k.os.trans h.os, k.tape.trans h.tape, k.output.trans h.output, Nat.le_trans h.size k.size, fun i hi hg => (k.block i (Nat.lt_of_lt_of_le hi h.size) hg).trans (h.block i hi hg)⟩
theorem Kept.mono {G G' : Nat → Prop} {a b : World} (h : Kept G a b) (hG : ∀ k, G k → G' k) : Kept G' a b :=
  ⟨h.os, h.tape, h.output, h.size, fun i hi hg => h.block i hi (fun x => hg (hG i x))⟩
theorem Kept.alloc {G : Nat → Prop} {a w : World} (h : Kept G a w) (o : Obj) : Kept G a (w.alloc o) :=
  h.trans ⟨rfl, rfl, rfl, by simp, fun k hk _ => Below.heap_alloc _ _ _ hk⟩
theorem Kept.drew {G : Nat → Prop} {a w : World} (h : Kept G a w) : Kept G a w.drew := ⟨h.os, h.tape, h.output, h.size, h.block⟩
theorem Kept.drewN {G : Nat → Prop} {a w : World} (h : Kept G a w) (n : Nat) : Kept G a (w.drewN n) := ⟨h.os, h.tape, h.output, h.size, h.block⟩
theorem Kept.setCell {G : Nat → Prop} {a w : World} (h : Kept G a w) {p : Addr} (hp : G p.block) (u : Value) : Kept G a (w.setCell p u) :=
  h.trans ⟨rfl, rfl, rfl, by simp [World.setCell], fun k _ hg => Below.heap_setCell _ _ _ _ (fun e => hg (e ▸ hp))⟩
theorem Kept.grown {G : Nat → Prop} {a w w' : World} {row : Option Nat} (h : Kept G a w) (hg : w.grownBy w' row) (hr : ∀ k, row = some k → G k) : Kept G a w' :=
  h.trans ⟨hg.os, hg.tape, hg.output, hg.size, fun k hk hn => hg.block k hk (fun e => hn (hr k e.symm))⟩
theorem Blk.kept {G : Nat → Prop} {w w' : World} {b : Nat} {cs : Array Value} (h : Blk w b cs) (hk : Kept G w w') (hb : ¬ G b) : Blk w' b cs := h.eqv (hk.block b h.lt hb)
theorem Blk.grown {w w' : World} {row : Option Nat} {b : Nat} {cs : Array Value} (h : Blk w b cs) (hk : w.grownBy w' row) (hb : some b ≠ row) : Blk w' b cs := h.eqv (hk.block b h.lt hb)
theorem Blk.alloc {w : World} {b : Nat} {cs : Array Value} (h : Blk w b cs) (o : Obj) : Blk (w.alloc o) b cs := h.eqv (Below.heap_alloc _ _ _ h.lt)

/-- A slice of structs: its elements lie in one block from an offset on, and its spare cells are there. -/
structure Row {α : Type} (f : α → List Value) (s : Nat) (w : World) (a : Option Addr) (n c : Nat) (xs : List α) : Prop where
  len : xs.length = n
  small : n ≤ 2000000
  le : n ≤ c
  cmax : c ≤ maxLen
  pos : 0 < s
  flat : (xs.flatMap f).length = n * s
  row : (a = none ∧ c = 0) ∨ ∃ b o cs, a = some ⟨b, o, none⟩ ∧ Blk w b cs ∧ o + c * s ≤ cs.size ∧ ∀ j u, (xs.flatMap f)[j]? = some u → cs[o + j]? = some u

theorem orMap {a b c d : Prop} (h : a ∨ b) (f : a → c) (g : b → d) : c ∨ d := h.elim (fun x => .inl (f x)) (fun y => .inr (g y))
theorem pairMap {α : Type} {R S : α → α → Prop} : ∀ {l : List α}, (∀ a b, R a b → S a b) → l.Pairwise R → l.Pairwise S
  | [], _, _ => .nil
  | x :: r, h, hp => by
    rw [List.pairwise_cons] at hp ⊢
    exact ⟨fun y hy => h x y (hp.1 y hy), pairMap h hp.2⟩

/-- The block of a slice's address. -/
def blkOf (a : Option Addr) : Option Nat := a.map (·.block)

section
variable {α : Type} {f : α → List Value} {s : Nat} {w w' : World} {a : Option Addr} {n c : Nat} {xs : List α}

theorem Row.lt (h : Row f s w a n c xs) : ∀ b, blkOf a = some b → b < w.heap.size := by
  intro b hb
  rcases h.row with ⟨rfl, _⟩ | ⟨b', o, cs, rfl, h1, _⟩
  · simp [blkOf] at hb
  · simp [blkOf] at hb
    subst hb
    exact h1.lt

theorem Row.eqv (h : Row f s w a n c xs) (he : ∀ b, blkOf a = some b → w'.heap[b]? = w.heap[b]?) : Row f s w' a n c xs :=
  ⟨h.len, h.small, h.le, h.cmax, h.pos, h.flat, orMap h.row id fun ⟨b, o, cs, h1, h2, h3⟩ => ⟨b, o, cs, h1, h2.eqv (he b (by rw [h1]; rfl)), h3⟩⟩
theorem Row.kept {G : Nat → Prop} (h : Row f s w a n c xs) (hk : Kept G w w') (hb : ∀ b, blkOf a = some b → ¬ G b) : Row f s w' a n c xs :=
  h.eqv fun b e => hk.block b (h.lt b e) (hb b e)
theorem Row.grown {row : Option Nat} (h : Row f s w a n c xs) (hk : w.grownBy w' row) (hb : ∀ b, blkOf a = some b → some b ≠ row) : Row f s w' a n c xs :=
  h.eqv fun b e => hk.block b (h.lt b e) (hb b e)
theorem Row.alloc (h : Row f s w a n c xs) (o : Obj) : Row f s (w.alloc o) a n c xs := h.eqv fun b e => Below.heap_alloc _ _ _ (h.lt b e)
theorem Row.other (h : Row f s w a n c xs) {b' : Nat} (hb : blkOf a ≠ some b') (k : Nat) (v : Value) : Row f s (w.setCell ⟨b', k, none⟩ v) a n c xs :=
  h.eqv fun b e => heap_setCell_other w _ b v (fun e' => hb (by rw [e]; exact congrArg some e'))
theorem Row.nil (hs : 0 < s) : Row f s w none 0 0 ([] : List α) := ⟨rfl, by omega, by omega, by simp [maxLen], hs, by simp, .inl ⟨rfl, rfl⟩⟩

theorem flatMap_get (hf : ∀ x, (f x).length = s) (t : Nat) (ht : t < s) : ∀ (xs : List α) (j : Nat), (xs.flatMap f)[j * s + t]? = xs[j]?.bind (fun x => (f x)[t]?)
  | [], j => by simp
  | x :: r, 0 => by simp [List.getElem?_append_left (show t < (f x).length by rw [hf]; exact ht)]
  | x :: r, j + 1 => by
    rw [List.flatMap_cons, List.getElem?_append_right (by rw [hf, Nat.add_mul]; omega), hf, show (j + 1) * s + t - s = j * s + t by rw [Nat.add_mul]; omega, flatMap_get hf t ht r j]
    simp
theorem flatMap_len (hf : ∀ x, (f x).length = s) : ∀ (xs : List α), (xs.flatMap f).length = xs.length * s
  | [] => by simp
  | x :: r => by simp [flatMap_len hf r, hf, Nat.add_mul]; omega
end

/-- What an append leaves of the address. -/
def NewAt (w : World) (a a' : Option Addr) : Prop := ∀ b, blkOf a' = some b → blkOf a = some b ∨ w.heap.size ≤ b

theorem run_append_row {P : Program} {α : Type} {f : α → List Value} {size : Nat} (hf : ∀ x, (f x).length = size) (hone : ∀ x, ∀ u ∈ f x, u.oneCell' = true) (w : World) (t ty e : TypeId) (i : TypeInfo) (z : Value) (bytes : Nat) (ht : P.underlying t = some (.slice e)) (hi : P.info? e = some i) (hz : i.zero = some z)
    (hsize : i.size = size) (hby : i.bytes = bytes) (hzs : z.cells.size = size)
    (a : Option Addr) (n c : Nat) (xs : List α) (h : Row f size w a n c xs) (ad : Addr) (m c' : Nat) (ys : List α) (hm : ys.length = m) (hnews : ∀ j u, (ys.flatMap f)[j]? = some u → w.cell? (ad.add j) = some u)
    (hsm : n + m ≤ 2000000) (hbyt : bytes ≤ 1000) :
    ∃ a' c2 w', (Builtin.append_ #[t, t] ty #[.slice a n c, .slice (some ad) m c']).run P w = .ok (.slice a' (n + m) c2) w' ∧ Row f size w' a' (n + m) c2 (xs ++ ys) ∧ w.grownBy w' (blkOf a) ∧ NewAt w a a' ∧ (a' = none → m = 0 ∧ a = none) := by
  have hn1 : ∀ u ∈ ys.flatMap f, u.oneCell' = true := fun u hu => by
    obtain ⟨x, _, hx⟩ := List.mem_flatMap.1 hu
    exact hone x u hx
  have hlen : (xs ++ ys).length = n + m := by rw [List.length_append, h.len, hm]
  have hfl : ((xs ++ ys).flatMap f).length = (n + m) * size := by rw [flatMap_len hf, hlen]
  have hyl : (ys.flatMap f).length = m * size := by rw [flatMap_len hf, hm]
  have hmax : n + m ≤ maxLen := by simp only [maxLen]; omega
  have hbytes : (n + m) * bytes ≤ 140737488355328 := Nat.le_trans (Nat.mul_le_mul hsm hbyt) (by decide)
  have own : ∀ v w', w'.ownsRow w.heap.size e size v (n + m) (xs.flatMap f ++ ys.flatMap f) → (v = .slice none 0 0 → n + m = 0) → ∃ a' c2, v = .slice a' (n + m) c2 ∧ Row f size w' a' (n + m) c2 (xs ++ ys) ∧ NewAt w a a' ∧ (a' = none → v = .slice none 0 0) := by
    intro v w' ho h0
    rcases ho.2 with ⟨rfl, h00⟩ | ⟨g, cap, cur, rfl, h1, h2, h3, h4, h5, h6⟩
    · refine ⟨none, 0, by rw [h00], ⟨hlen, hsm, by omega, by simp [maxLen], h.pos, hfl, .inl ⟨rfl, rfl⟩⟩, fun b hb => by simp [blkOf] at hb, fun _ => rfl⟩
    · refine ⟨_, _, rfl, ⟨hlen, hsm, h3, h4, h.pos, hfl, .inr ⟨g, 0, cur, rfl, ⟨e, h2⟩, by omega, fun j u hu => ?_⟩⟩, fun b hb => .inr (by simp [blkOf] at hb; omega), by simp⟩
      rw [List.flatMap_append, ← h6, List.getElem?_take] at hu
      split at hu
      · simpa using hu
      · cases hu
  rcases h.row with ⟨rfl, h00⟩ | ⟨b, o, cs, rfl, hb, hfit, hcs⟩
  · have hn0 : n = 0 := by have := h.le; omega
    subst hn0
    subst h00
    have hx : xs = [] := List.eq_nil_of_length_eq_zero h.len
    subst hx
    obtain ⟨v', w', hrun, r1, r2, r3⟩ := run_append_own (P := P) w w.heap.size t ty e i z size bytes ht hi hz hsize hby hzs h.pos (.slice none 0 0) 0 [] (World.ownsRow_nil w _ e size) ad m c' (ys.flatMap f) hyl hnews hn1 hmax hbytes (Nat.le_refl _)
    obtain ⟨a', c2, rfl, q1, q2, q3⟩ := own v' w' (by simpa using r1) (fun hv => by have := (r3.1 hv).2; omega)
    exact ⟨a', c2, w', hrun, q1, r2, q2, fun hq => ⟨(r3.1 (q3 hq)).2, rfl⟩⟩
  · by_cases hr : n + m ≤ c
    · have hle : (n + m) * size ≤ c * size := Nat.mul_le_mul_right _ hr
      rw [Nat.add_mul] at hle
      have hrun := run_append_room_cells (P := P) w t ty e i ht hi b o n c ad m c' (ys.flatMap f) (by rw [hsize]; exact hyl) hnews hn1 hr
        (fun j hj => by rw [hb.cell, hsize, Array.getElem?_eq_getElem (by omega)]; rfl) (fun j _ => hb.free _)
      rw [hsize] at hrun
      obtain ⟨cs', g1, g2, g3, g4⟩ := Blk.setCells (ys.flatMap f) (o + n * size) w cs hb (by omega)
      have hxl := h.flat
      refine ⟨_, _, _, hrun, ⟨hlen, hsm, hr, h.cmax, h.pos, hfl, .inr ⟨b, o, cs', rfl, g1, by omega, fun j u hu => ?_⟩⟩, grown_setCells _ _ _ _, fun _ hb' => .inl hb', by simp⟩
      rw [List.flatMap_append] at hu
      by_cases hj : j < n * size
      · rw [List.getElem?_append_left (by omega)] at hu
        rw [g3 _ (by omega)]
        exact hcs j u hu
      · rw [List.getElem?_append_right (by omega)] at hu
        have hlt := (List.getElem?_eq_some_iff.1 hu).1
        have := g4 (j - n * size) (by omega)
        rw [show o + n * size + (j - n * size) = o + j by omega] at this
        rw [this, ← hu, hxl]
    · obtain ⟨v', w', hrun, r1, r2⟩ := run_append_arg_grows (P := P) w t ty e i z size bytes ht hi hz hsize hby hzs h.pos ⟨b, o, none⟩ n c (xs.flatMap f) h.flat (fun j u hu => by rw [Addr.add_lit, hb.cell]; exact hcs j u hu) ad m c' (ys.flatMap f) hyl hnews (by omega) hmax hbytes
      obtain ⟨a', c2, rfl, q1, q2, q3⟩ := own v' w' r1 (fun hv => by subst hv; rcases r1.2 with ⟨_, h0⟩ | ⟨g, cap, cur, hv, _⟩; exact h0; cases hv)
      refine ⟨a', c2, w', hrun, q1, ⟨r2.os, r2.tape, r2.output, r2.size, fun k hk _ => r2.block k hk (by simp)⟩, q2, fun hq => ?_⟩
      have hv := q3 hq
      rcases r1.2 with ⟨_, h0⟩ | ⟨g, cap, cur, hv', _⟩
      · omega
      · rw [hv] at hv'; cases hv'

/-- .. for the walk. -/
theorem wpList_append_row {P : Program} {α : Type} {f : α → List Value} {size : Nat} (w : World) {ops : Array Oper} {rest : List Oper} {o : Oper} {A : Act} {Q : Exit → Act → World → Prop} (hgd : o.guard = none) (sl x : Operand) (t : TypeId)
    (ho : o.op = .call { callee := .builtin .append, args := #[sl, x], argTypes := #[t, t] })
    (hf : ∀ x, (f x).length = size) (hone : ∀ x, ∀ u ∈ f x, u.oneCell' = true) (e : TypeId) (i : TypeInfo) (z : Value) (bytes : Nat) (ht : P.underlying t = some (.slice e)) (hi : P.info? e = some i) (hz : i.zero = some z)
    (hsize : i.size = size) (hby : i.bytes = bytes) (hzs : z.cells.size = size)
    (a : Option Addr) (n c : Nat) (xs : List α) (hs : A.eval sl = .slice a n c) (h : Row f size w a n c xs) (ad : Addr) (m c' : Nat) (ys : List α) (hx : A.eval x = .slice (some ad) m c') (hm : ys.length = m) (hnews : ∀ j u, (ys.flatMap f)[j]? = some u → w.cell? (ad.add j) = some u)
    (hsm : n + m ≤ 2000000) (hbyt : bytes ≤ 1000)
    (hK : ∀ a' c2 w', Row f size w' a' (n + m) c2 (xs ++ ys) → w.grownBy w' (blkOf a) → NewAt w a a' → (a' = none → m = 0 ∧ a = none) → wpList P ops Q rest (A.put o.dst (.slice a' (n + m) c2)) w') : wpList P ops Q (o :: rest) A w := by
  refine wpList_plain hgd fun K hK' => ?_
  obtain ⟨a', c2, w', hrun, r1, r2, r3, r4⟩ := run_append_row (P := P) hf hone w t o.type e i z bytes ht hi hz hsize hby hzs a n c xs h ad m c' ys hm hnews hsm hbyt
  unfold Oper.wp
  simp [execOp, ho, resolve, invoke, builtin, hs, hx, hrun, Result.andThen]
  exact hK' _ _ (hK a' c2 w' r1 r2 r3 r4)

def It.cells (x : It) : List Value := [.string x.k, .string x.v, .int .u64 x.c, .int .i32 x.r]
def Pr.cells (x : Pr) : List Value := [.int .i32 x.o, .int .u32 x.q, .string x.key]
def Rs.cells (x : Rs) : List Value := [.int .i32 x.o, .int .u32 x.q, .int .i64 x.t]

theorem Row.items {w : World} {a : Option Addr} {n c : Nat} {its : List It} (h : Row It.cells 4 w a n c its) : Items w a n its := by
  refine ⟨h.len, h.small, ?_⟩
  rcases h.row with ⟨_, h0⟩ | ⟨b, o, cs, h1, h2, h3, h4⟩
  · exact .inl (by have := h.le; omega)
  · refine .inr ⟨b, o, h1, fun j x hx => ?_⟩
    have key : ∀ t, t < 4 → w.cell? ⟨b, o + j * 4 + t, none⟩ = (It.cells x)[t]? := fun t ht => by
      have hg := flatMap_get (f := It.cells) (s := 4) (fun _ => rfl) t ht its j
      rw [hx] at hg
      simp only [Option.bind_some] at hg
      rw [h2.cell, show o + j * 4 + t = o + (j * 4 + t) by omega]
      obtain ⟨u, hu⟩ : ∃ u, (It.cells x)[t]? = some u := ⟨_, List.getElem?_eq_getElem (show t < 4 from ht)⟩
      rw [hu] at hg ⊢
      exact h4 _ _ hg
    exact ⟨key 0 (by omega), key 1 (by omega), key 2 (by omega), key 3 (by omega)⟩

theorem Row.pairs {w : World} {a : Option Addr} {n c : Nat} {ps : List Pr} (h : Row Pr.cells 3 w a n c ps) : Pairs w a n ps := by
  refine ⟨h.len, h.small, ?_⟩
  rcases h.row with ⟨_, h0⟩ | ⟨b, o, cs, h1, h2, h3, h4⟩
  · exact .inl (by have := h.le; omega)
  · refine .inr ⟨b, o, h1, fun j x hx => ?_⟩
    have key : ∀ t, t < 3 → w.cell? ⟨b, o + j * 3 + t, none⟩ = (Pr.cells x)[t]? := fun t ht => by
      have hg := flatMap_get (f := Pr.cells) (s := 3) (fun _ => rfl) t ht ps j
      rw [hx] at hg
      simp only [Option.bind_some] at hg
      rw [h2.cell, show o + j * 3 + t = o + (j * 3 + t) by omega]
      obtain ⟨u, hu⟩ : ∃ u, (Pr.cells x)[t]? = some u := ⟨_, List.getElem?_eq_getElem (show t < 3 from ht)⟩
      rw [hu] at hg ⊢
      exact h4 _ _ hg
    exact ⟨key 0 (by omega), key 1 (by omega), key 2 (by omega)⟩

/-- A slice whose elements are these reservations. -/
def Ress (w : World) (a : Option Addr) (n : Nat) (rs : List Rs) : Prop :=
  rs.length = n ∧ n ≤ 2000000 ∧ (n = 0 ∨ ∃ b o, a = some ⟨b, o, none⟩ ∧ ∀ j x, rs[j]? = some x →
    w.cell? ⟨b, o + j * 3, none⟩ = some (.int .i32 x.o) ∧ w.cell? ⟨b, o + j * 3 + 1, none⟩ = some (.int .u32 x.q) ∧ w.cell? ⟨b, o + j * 3 + 2, none⟩ = some (.int .i64 x.t))

theorem Row.ress {w : World} {a : Option Addr} {n c : Nat} {ps : List Rs} (h : Row Rs.cells 3 w a n c ps) : Ress w a n ps := by
  refine ⟨h.len, h.small, ?_⟩
  rcases h.row with ⟨_, h0⟩ | ⟨b, o, cs, h1, h2, h3, h4⟩
  · exact .inl (by have := h.le; omega)
  · refine .inr ⟨b, o, h1, fun j x hx => ?_⟩
    have key : ∀ t, t < 3 → w.cell? ⟨b, o + j * 3 + t, none⟩ = (Rs.cells x)[t]? := fun t ht => by
      have hg := flatMap_get (f := Rs.cells) (s := 3) (fun _ => rfl) t ht ps j
      rw [hx] at hg
      simp only [Option.bind_some] at hg
      rw [h2.cell, show o + j * 3 + t = o + (j * 3 + t) by omega]
      obtain ⟨u, hu⟩ : ∃ u, (Rs.cells x)[t]? = some u := ⟨_, List.getElem?_eq_getElem (show t < 3 from ht)⟩
      rw [hu] at hg ⊢
      exact h4 _ _ hg
    exact ⟨key 0 (by omega), key 1 (by omega), key 2 (by omega)⟩

/-- s[1:] of a slice that is not empty. -/
theorem Row.tail {α : Type} {f : α → List Value} {s : Nat} (hf : ∀ x, (f x).length = s) {w : World} {b o n c : Nat} {x : α} {xs : List α} (h : Row f s w (some ⟨b, o, none⟩) (n + 1) c (x :: xs)) : Row f s w (some ⟨b, o + s, none⟩) n (c - 1) xs := by
  have hl := h.len
  have hle := h.le
  have hfl := h.flat
  refine ⟨by simpa using hl, by have := h.small; omega, by omega, by have := h.cmax; omega, h.pos, by rw [flatMap_len hf]; simp at hl; rw [hl], ?_⟩
  rcases h.row with ⟨h0, _⟩ | ⟨b', o', cs, h1, h2, h3, h4⟩
  · cases h0
  · cases h1
    refine .inr ⟨b, o + s, cs, rfl, h2, ?_, fun j u hu => ?_⟩
    · have : (c - 1) * s + s = c * s := by
        obtain ⟨d, rfl⟩ : ∃ d, c = d + 1 := ⟨c - 1, by omega⟩
        simp [Nat.add_mul]
      omega
    · have := h4 (s + j) u (by rw [List.flatMap_cons, List.getElem?_append_right (by rw [hf]; omega), hf, show s + j - s = j by omega]; exact hu)
      rw [show o + s + j = o + (s + j) by omega]
      exact this

/-- s[:k:k]. -/
theorem Row.take {α : Type} {f : α → List Value} {s : Nat} (hf : ∀ x, (f x).length = s) {w : World} {a : Option Addr} {n c : Nat} {xs : List α} (h : Row f s w a n c xs) (k : Nat) (hk : k ≤ n) : Row f s w a k k (xs.take k) := by
  have hl := h.len
  have hle := h.le
  refine ⟨by rw [List.length_take]; omega, by have := h.small; omega, Nat.le_refl _, by have := h.cmax; omega, h.pos, by rw [flatMap_len hf, List.length_take]; congr 1; omega, ?_⟩
  rcases h.row with ⟨h0, h00⟩ | ⟨b', o', cs, h1, h2, h3, h4⟩
  · exact .inl ⟨h0, by omega⟩
  · refine .inr ⟨b', o', cs, h1, h2, Nat.le_trans (Nat.add_le_add_left (Nat.mul_le_mul_right _ (by omega)) _) h3, fun j u hu => h4 j u ?_⟩
    have hx : xs.flatMap f = (xs.take k).flatMap f ++ (xs.drop k).flatMap f := by rw [← List.flatMap_append, List.take_append_drop]
    rw [hx, List.getElem?_append_left (List.getElem?_eq_some_iff.1 hu).1]
    exact hu

/-- The cells of s[k:]. -/
theorem Row.dropCells {α : Type} {f : α → List Value} {s : Nat} (hf : ∀ x, (f x).length = s) {w : World} {b o n c : Nat} {xs : List α} (h : Row f s w (some ⟨b, o, none⟩) n c xs) (k : Nat) (hk : k ≤ n) :
    ∀ j u, ((xs.drop k).flatMap f)[j]? = some u → w.cell? ((⟨b, o + k * s, none⟩ : Addr).add j) = some u := by
  intro j u hu
  have hl := h.len
  rcases h.row with ⟨h0, h00⟩ | ⟨b', o', cs, h1, h2, h3, h4⟩
  · cases h0
  · cases h1
    have hx : xs.flatMap f = (xs.take k).flatMap f ++ (xs.drop k).flatMap f := by rw [← List.flatMap_append, List.take_append_drop]
    have htl : ((xs.take k).flatMap f).length = k * s := by rw [flatMap_len hf, List.length_take]; congr 1; omega
    rw [Addr.add_lit, h2.cell]
    have := h4 (k * s + j) u (by rw [hx, List.getElem?_append_right (by omega), htl, show k * s + j - k * s = j by omega]; exact hu)
    rw [show o + k * s + j = o + (k * s + j) by omega]
    exact this

end Go.Proofs.YbulkdywgDoor
