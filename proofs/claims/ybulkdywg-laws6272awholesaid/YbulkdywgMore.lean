/-
  Seat b6272a: plain facts for the walk of the law.
-/
import Derived.Test.YbulkdywgWalks
import Derived.LaidEqlPtr
namespace Go.Proofs.Ybulkdywg
open Go.RowKit

/-- What is left of a body behind its first k statements. -/
def dropSeq : Nat → Code → Code
  | 0, c => c
  | k + 1, .seq _ b => dropSeq k b
  | _ + 1, c => c

/-- What is known of a slice of numbers that came in. -/
def View (k : IntKind) (w : World) (a : Option Addr) (n c : Nat) (zs : List Int) : Prop :=
  zs.length = n ∧ n ≤ c ∧ c ≤ 9223372036854775807 ∧ ((a = none ∧ n = 0 ∧ c = 0) ∨ ∃ x, a = some x ∧ ∀ j, j < n → w.cell? (x.add j) = some (.int k (zs.getD j 0)))

theorem View.at {k : IntKind} {w : World} {a : Option Addr} {n c : Nat} {bs : List Int} (h : View k w a n c bs) (h0 : 0 < n) : ∃ b o, a = some ⟨b, o, none⟩ ∧ ∀ j, j < n → w.cell? ⟨b, o + j, none⟩ = some (.int k (bs.getD j 0)) := by
  obtain ⟨h1, h3, h4, h5⟩ := h
  rcases h5 with ⟨_, h, _⟩ | ⟨x, rfl, hc⟩
  · omega
  · obtain ⟨b, o, s⟩ := x
    have hs : s = none := by simpa [Addr.add] using World.cell?_spot (hc 0 h0)
    subst hs
    exact ⟨b, o, rfl, fun i hi => by rw [← Addr.add_lit]; exact hc i hi⟩

theorem View.below {k : IntKind} {w w' : World} {a : Option Addr} {n c : Nat} {bs : List Int} (h : View k w a n c bs) (hb : Below w.heap.size w w') : View k w' a n c bs := by
  obtain ⟨h1, h3, h4, h5⟩ := h
  refine ⟨h1, h3, h4, ?_⟩
  rcases h5 with h5 | ⟨x, hx, hc⟩
  · exact .inl h5
  · exact .inr ⟨x, hx, fun j hj => by rw [hb.cell (World.block_lt_of_cell? _ _ (hc j hj))]; exact hc j hj⟩

theorem Yba.info27 : (Yba.prog.info? 27).map (fun i => (i.zero, i.size, i.bytes)) = some (some (.int .i32 0), 1, 4) := by kernel_rfl
theorem Yba.info29 : (Yba.prog.info? 29).map (fun i => (i.zero, i.size, i.bytes)) = some (some (.pointer none), 1, 8) := by kernel_rfl
theorem Yba.info37 : (Yba.prog.info? 37).map (fun i => (i.zero, i.size, i.bytes)) = some (some (.agg #[.int .u32 0, .pointer none, .map none, .slice none 0 0]), 4, 48) := by kernel_rfl

theorem row_of_own {w : World} {base : Nat} {e : TypeId} {g n cap size : Nat} {xs : List Value} (h : w.ownsRow base e size (.slice (some ⟨g, 0, none⟩) n cap) n xs) :
    ∃ cur : List Value, w.heap[g]? = some (.cells cur.toArray e (0, 0)) ∧ cur.length = cap * size := by
  rcases h.2 with ⟨h', _⟩ | ⟨g', cap', cur, h', _, hg, _, _, hcs, ht⟩
  · cases h'
  · simp only [Value.slice.injEq, Option.some.injEq, Addr.mk.injEq, and_true, true_and] at h'
    obtain ⟨rfl, rfl⟩ := h'
    exact ⟨cur.toList, by simpa using hg, by simpa using hcs⟩

theorem row_set {w : World} {g : Nat} {cur : List Value} {e : TypeId} (h : w.heap[g]? = some (.cells cur.toArray e (0, 0))) (j : Nat) (u : Value) :
    (w.setCell ⟨g, j, none⟩ u).heap[g]? = some (.cells (cur.set j u).toArray e (0, 0)) := by
  rw [heap_setCell_same w g j cur.toArray e u h]
  simp

/-- Memory behind the making of 'memb': its box holds a slice of the ids. -/
def Memb (s n : Nat) (zs : List Int) (w wm : World) : Prop :=
  ∃ (ma : Option Addr) (mc gm : Nat), wm.heap[s]? = some (.cells #[.slice ma n mc] 26 (0, 0)) ∧ (0 < n → ma = some ⟨gm, 0, none⟩ ∧ s < gm) ∧
    (∀ j, j < n → wm.cell? ⟨gm, j, none⟩ = some (.int .i32 (zs.getD j 0))) ∧ Below s w wm ∧ s < wm.heap.size

/-- The rows 'lives' and 'links', filled up to k. -/
def Links (zs : List Int) (k : Nat) (ps : Nat → Addr) (cL cK : List Value) : Prop :=
  ∀ i, i < k → cL[i]? = some (.pointer (some (ps i))) ∧ cK[i * 4]? = some (.int .u32 (zs.getD i 0)) ∧ cK[i * 4 + 1]? = some (.pointer (some (ps i))) ∧ cK[i * 4 + 2]? = some (.map none) ∧ cK[i * 4 + 3]? = some (.slice none 0 0)

theorem links_step {zs : List Int} {k n : Nat} {ps : Nat → Addr} {cL cK : List Value} {z : Int} (h : Links zs k ps cL cK) (hk : k < n) (hL : cL.length = n) (hK : cK.length = n * 4) (hz : zs.getD k 0 = z) (x : Addr) :
    Links zs (k + 1) (fun i => if i = k then x else ps i) (cL.set k (.pointer (some x)))
      ((((cK.set (k * 4) (.int .u32 z)).set (k * 4 + 1) (.pointer (some x))).set (k * 4 + 2) (.map none)).set (k * 4 + 3) (.slice none 0 0)) := by
  intro i hi
  by_cases hik : i = k
  · subst hik
    have h0 : i * 4 < cK.length := by omega
    have h1 : i * 4 + 1 < cK.length := by omega
    have h2 : i * 4 + 2 < cK.length := by omega
    have h3 : i * 4 + 3 < cK.length := by omega
    have hl : i < cL.length := by omega
    simp [hl, h0, h1, h2, h3, ← hz]
  · obtain ⟨e1, e2, e3, e4, e5⟩ := h i (by omega)
    simp only [hik, if_false]
    refine ⟨?_, ?_, ?_, ?_, ?_⟩
    · rw [List.getElem?_set_ne (by omega)]; exact e1
    · rw [List.getElem?_set_ne (by omega), List.getElem?_set_ne (by omega), List.getElem?_set_ne (by omega), List.getElem?_set_ne (by omega)]; exact e2
    · rw [List.getElem?_set_ne (by omega), List.getElem?_set_ne (by omega), List.getElem?_set_ne (by omega), List.getElem?_set_ne (by omega)]; exact e3
    · rw [List.getElem?_set_ne (by omega), List.getElem?_set_ne (by omega), List.getElem?_set_ne (by omega), List.getElem?_set_ne (by omega)]; exact e4
    · rw [List.getElem?_set_ne (by omega), List.getElem?_set_ne (by omega), List.getElem?_set_ne (by omega), List.getElem?_set_ne (by omega)]; exact e5

theorem links_world {wr w2 : World} {bl bk k : Nat} {cL cK : List Value} (hlt : bl < bk) (hbk : bk < wr.heap.size) (hL : wr.heap[bl]? = some (.cells cL.toArray 29 (0, 0)))
    (hK : wr.heap[bk]? = some (.cells cK.toArray 37 (0, 0))) (hb : Below bl w2 wr) (P Z M S : Value) (X : Obj) :
    ((((((wr.setCell ⟨bl, k, none⟩ P).setCell ⟨bk, k * 4, none⟩ Z).setCell ⟨bk, k * 4 + 1, none⟩ P).setCell ⟨bk, k * 4 + 2, none⟩ M).setCell ⟨bk, k * 4 + 3, none⟩ S).alloc X).drew.heap[bl]? = some (.cells (cL.set k P).toArray 29 (0, 0)) ∧
    ((((((wr.setCell ⟨bl, k, none⟩ P).setCell ⟨bk, k * 4, none⟩ Z).setCell ⟨bk, k * 4 + 1, none⟩ P).setCell ⟨bk, k * 4 + 2, none⟩ M).setCell ⟨bk, k * 4 + 3, none⟩ S).alloc X).drew.heap[bk]? =
      some (.cells ((((cK.set (k * 4) Z).set (k * 4 + 1) P).set (k * 4 + 2) M).set (k * 4 + 3) S).toArray 37 (0, 0)) ∧
    Below bl w2 ((((((wr.setCell ⟨bl, k, none⟩ P).setCell ⟨bk, k * 4, none⟩ Z).setCell ⟨bk, k * 4 + 1, none⟩ P).setCell ⟨bk, k * 4 + 2, none⟩ M).setCell ⟨bk, k * 4 + 3, none⟩ S).alloc X).drew := by
  have hL1 := row_set hL k P
  have hK1 : (wr.setCell ⟨bl, k, none⟩ P).heap[bk]? = some (.cells cK.toArray 37 (0, 0)) := by rw [Below.heap_setCell _ _ _ _ (by show bk ≠ bl; omega)]; exact hK
  have hs := hb.size
  refine ⟨?_, ?_, ?_⟩
  · show (World.alloc _ _).heap[bl]? = _
    rw [Below.heap_alloc _ _ _ (by simp; omega), Below.heap_setCell _ _ _ _ (by show bl ≠ bk; omega), Below.heap_setCell _ _ _ _ (by show bl ≠ bk; omega), Below.heap_setCell _ _ _ _ (by show bl ≠ bk; omega), Below.heap_setCell _ _ _ _ (by show bl ≠ bk; omega)]
    exact hL1
  · show (World.alloc _ _).heap[bk]? = _
    rw [Below.heap_alloc _ _ _ (by simpa using hbk)]
    exact row_set (row_set (row_set (row_set hK1 _ _) _ _) _ _) _ _
  · exact Below.drew (Below.alloc (Below.setCell (Below.setCell (Below.setCell (Below.setCell (Below.setCell hb (Nat.le_refl _) _) (by show bl ≤ bk; omega) _) (by show bl ≤ bk; omega) _) (by show bl ≤ bk; omega) _) (by show bl ≤ bk; omega) _) (by simp; omega) _)

/-- The cells of a Node of which the literal names three fields. -/
def nodeCells (l f p : Value) : Array Value := #[.int .i32 0, .int .u64 0, .int .u32 0, .int .i64 0, l, f, p, .nilIface, .slice none 0 0, .int .u8 0, .int .u8 0, .int .u8 0, .int .u8 0, .int .u8 0, .int .u8 0, .int .u8 0, .int .u8 0, .int .u8 0, .int .u8 0, .int .u8 0, .int .u8 0, .int .u8 0, .int .u8 0, .int .u8 0, .int .u8 0, .int .u8 0, .int .u8 0, .int .u8 0, .int .u8 0, .int .u8 0, .int .u8 0, .int .u8 0, .int .u8 0, .int .u8 0, .int .u8 0, .int .u8 0, .int .u8 0, .int .u8 0, .int .u8 0, .int .u8 0, .int .u8 0, .int .i32 0, .int .u32 0, .int .u8 0, .int .i64 0, .int .u32 0, .int .u32 0, .int .i64 0, .int .i64 0, .int .i64 0, .string ⟨#[]⟩, .string ⟨#[]⟩, .int .u64 0, .int .i32 0, .bool false, .int .i64 0, .int .i64 0, .pointer none, .pointer none, .bool false, .nilIface, .nilIface, .map none, .pointer none, .int .i32 0, .int .u32 0, .int .u8 0, .int .i64 0, .int .u32 0, .int .u32 0, .int .i64 0, .int .i64 0, .int .u32 0, .map none, .map none, .map none, .map none, .int .i64 0, .slice none 0 0, .slice none 0 0, .int .i64 0, .bool false, .int .i64 0, .int .i64 0, .bool false, .bool false, .map none, .slice none 0 0, .pointer none]

set_option maxRecDepth 100000 in
theorem built74 (a p : Option Addr) (n c : Nat) (f : Fn) (ff fc : Array Value) :
    Yba.prog.built 74 [(4, .slice a n c), (5, .func f ff fc), (6, .pointer p)] = some (nodeCells (.slice a n c) (.func f ff fc) (.pointer p)) := by kernel_rfl

theorem wp_build_as {P : Program} {o : Oper} {a : Act} {w : World} {K : Act → World → Prop} {Q : Exit → Act → World → Prop} (t : TypeId) (parts : Array (Nat × Operand)) (ho : o.op = .build t parts) (cells : Array Value)
    (hc : P.built t (parts.map fun (i, x) => (i, a.eval x)).toList = some cells) (h : K (a.put o.dst (.agg cells)) w) : o.wp P a w K Q := by
  unfold Oper.wp execOp
  simp only [ho, Sem.run_bind, run_build w t _ cells hc, Result.andThen_ok]
  exact h

theorem wpList_build_as {P : Program} {w : World} {ops : Array Oper} {rest : List Oper} {o : Oper} {a : Act} {Q : Exit → Act → World → Prop} (hg : o.guard = none) (t : TypeId) (parts : Array (Nat × Operand)) (ho : o.op = .build t parts) (cells : Array Value)
    (hc : P.built t (parts.map fun (i, x) => (i, a.eval x)).toList = some cells) (h : wpList P ops Q rest (a.put o.dst (.agg cells)) w) : wpList P ops Q (o :: rest) a w :=
  wpList_plain hg fun _ hK => wp_build_as t parts ho cells hc (hK _ _ h)

/-- What the law's last part finds in memory. -/
structure State (w wc : World) (s0 bc ba bl bk nb nr n0 c0 n3 c3 gm mc : Nat) (ma a0 a3 : Option Addr) (r : Int) (pf pp : Addr) (z0 z3 : List Int) (ps : Nat → Addr) : Prop where
  view0 : View .u32 wc a0 n0 c0 z0
  view3 : View .i32 wc a3 n3 c3 z3
  lives : ∀ j, j < n0 → wc.cell? ⟨bl, j, none⟩ = some (.pointer (some (ps j)))
  links : ∀ j, j < n0 → wc.cell? ⟨bk, j * 4, none⟩ = some (.int .u32 (z0.getD j 0)) ∧ wc.cell? ⟨bk, j * 4 + 1, none⟩ = some (.pointer (some (ps j)))
  membs : ∀ j, j < n3 → wc.cell? ⟨gm, j, none⟩ = some (.int .i32 (z3.getD j 0))
  maIs : 0 < n3 → ma = some ⟨gm, 0, none⟩
  calls : wc.cell? ⟨bc, 0, none⟩ = some (.int .i64 1)
  asked : wc.cell? ⟨ba, 0, none⟩ = some (.int .u32 r)
  memb : wc.cell? ⟨s0, 0, none⟩ = some (.slice ma n3 mc)
  res0 : wc.cell? ⟨nr, 0, none⟩ = some (.slice ma n3 mc)
  res1 : wc.cell? ⟨nr, 1, none⟩ = some (.pointer (some pp))
  node4 : wc.cell? ⟨nb, 4, none⟩ = some (.slice (some ⟨bk, 0, none⟩) n0 n0)
  node6 : wc.cell? ⟨nb, 6, none⟩ = some (.pointer (some pf))
  first : First z0 n0 r ps pf pp
  below : Below w.heap.size w wc

/-- The first place from k on at which r stands. -/
def From (zs : List Int) (n k : Nat) (r : Int) (ps : Nat → Addr) (pf x : Addr) : Prop :=
  (∃ j, k ≤ j ∧ j < n ∧ zs.getD j 0 = r ∧ (∀ i, k ≤ i → i < j → ¬ zs.getD i 0 = r) ∧ x = ps j) ∨ ((∀ i, k ≤ i → i < n → ¬ zs.getD i 0 = r) ∧ x = pf)

theorem From.start (zs : List Int) (n : Nat) (r : Int) (ps : Nat → Addr) (pf : Addr) : From zs n n r ps pf pf := .inr ⟨fun i h1 h2 => by omega, rfl⟩
theorem From.hit {zs : List Int} {n m : Nat} {r : Int} {ps : Nat → Addr} {pf : Addr} (hm : m < n) (he : zs.getD m 0 = r) : From zs n m r ps pf (ps m) :=
  .inl ⟨m, Nat.le_refl _, hm, he, fun i h1 h2 => by omega, rfl⟩
theorem From.miss {zs : List Int} {n m : Nat} {r : Int} {ps : Nat → Addr} {pf x : Addr} (h : From zs n (m + 1) r ps pf x) (he : ¬ zs.getD m 0 = r) : From zs n m r ps pf x := by
  have key : ∀ i, m ≤ i → m + 1 ≤ i ∨ i = m := fun i hi => by omega
  rcases h with ⟨j, h1, h2, h3, h4, h5⟩ | ⟨h1, h2⟩
  · refine .inl ⟨j, by omega, h2, h3, fun i hi hij => ?_, h5⟩
    rcases key i hi with h | rfl
    · exact h4 i h hij
    · exact he
  · refine .inr ⟨fun i hi hin => ?_, h2⟩
    rcases key i hi with h | rfl
    · exact h1 i h hin
    · exact he
theorem From.same {zs : List Int} {n : Nat} {r : Int} {ps : Nat → Addr} {pf x p : Addr} (h : From zs n 0 r ps pf x) (hf : First zs n r ps pf p) : x = p := by
  rcases h with ⟨j, _, h2, h3, h4, h5⟩ | ⟨h1, h2⟩ <;> rcases hf with ⟨j', k2, k3, k4, k5⟩ | ⟨k1, k2'⟩
  · have : j = j' := by
      rcases Nat.lt_trichotomy j j' with h | h | h
      · exact absurd h3 (k4 j h)
      · exact h
      · exact absurd k3 (h4 j' (Nat.zero_le _) h)
    rw [h5, k5, this]
  · exact absurd h3 (k1 j h2)
  · exact absurd k3 (h1 j' (Nat.zero_le _) k2)
  · rw [h2, k2']

theorem base_facts {w wm w2 wr : World} {s0 : Nat} {A C D : Obj} (hsm : s0 < wm.heap.size) (hbm : Below s0 w wm) (h2 : Below (wm.heap.size + 1 + 1 + 1) (((wm.alloc A).alloc C).alloc D) w2) (hr : Below (wm.heap.size + 1 + 1 + 1) w2 wr) :
    wr.heap[wm.heap.size]? = some A ∧ wr.heap[wm.heap.size + 1]? = some C ∧ (∀ b, b < wm.heap.size → wr.heap[b]? = wm.heap[b]?) ∧ Below s0 w wr := by
  have hb : ∀ b, b < wm.heap.size + 1 + 1 + 1 → wr.heap[b]? = (((wm.alloc A).alloc C).alloc D).heap[b]? := fun b h => (hr.block b h).trans (h2.block b h)
  have hs2 := h2.size
  have hsr := hr.size
  have hsb := hbm.size
  simp at hs2
  refine ⟨?_, ?_, fun b h => ?_, ?_⟩
  · rw [hb _ (by omega), Below.heap_alloc _ _ _ (by simp; omega), Below.heap_alloc _ _ _ (by simp)]; exact heap_alloc_new wm _
  · rw [hb _ (by omega), Below.heap_alloc _ _ _ (by simp)]
    have := heap_alloc_new (wm.alloc A) C
    simpa using this
  · rw [hb _ (by omega), Below.heap_alloc _ _ _ (by simp; omega), Below.heap_alloc _ _ _ (by simp; omega), Below.heap_alloc _ _ _ h]
  · exact hbm.trans ((((((Below.refl s0 wm).alloc (by omega) A).alloc (by simp; omega) C).alloc (by simp; omega) D).trans (h2.mono (by omega))).trans (hr.mono (by omega)))

theorem state_of {w wr w3 : World} {N : Array Value} {s0 bc ba bl bk n0 c0 n3 c3 gm mc : Nat} {ma a0 a3 : Option Addr} {r : Int} {pf pp : Addr} {z0 z3 : List Int} {ps : Nat → Addr} {cL cK : List Value}
    (hs0 : s0 = w.heap.size) (hv0 : View .u32 w a0 n0 c0 z0) (hv3 : View .i32 w a3 n3 c3 z3) (hb : Below s0 w wr) (hA : After s0 bc ba r (wr.alloc (.cells N 74)) w3) (hF : First z0 n0 r ps pf pp)
    (hL : wr.heap[bl]? = some (.cells cL.toArray 29 (0, 0))) (hK : wr.heap[bk]? = some (.cells cK.toArray 37 (0, 0))) (hLK : Links z0 n0 ps cL cK)
    (hbox : wr.heap[s0]? = some (.cells #[.slice ma n3 mc] 26 (0, 0))) (hm : ∀ j, j < n3 → wr.cell? ⟨gm, j, none⟩ = some (.int .i32 (z3.getD j 0))) (hma : 0 < n3 → ma = some ⟨gm, 0, none⟩ ∧ s0 < gm)
    (hN4 : N[4]? = some (.slice (some ⟨bk, 0, none⟩) n0 n0)) (hN6 : N[6]? = some (.pointer (some pf)))
    (d1 : bl ≠ bc) (d2 : bl ≠ ba) (d3 : bk ≠ bc) (d4 : bk ≠ ba) (d5 : s0 ≠ bc) (d6 : s0 ≠ ba) (d7 : 0 < n3 → gm ≠ bc) (d8 : 0 < n3 → gm ≠ ba) (hbc : bc < wr.heap.size) (hba : ba < wr.heap.size) :
    State w (w3.alloc (.cells #[.slice ma n3 mc, .pointer (some pp)] 76)) s0 bc ba bl bk wr.heap.size w3.heap.size n0 c0 n3 c3 gm mc ma a0 a3 r pf pp z0 z3 ps := by
  have hsz : wr.heap.size + 1 ≤ w3.heap.size := by have := hA.below.size; simpa using this
  have ho : ∀ b, b < wr.heap.size → b ≠ bc → b ≠ ba → (w3.alloc (.cells #[.slice ma n3 mc, .pointer (some pp)] 76)).heap[b]? = wr.heap[b]? := fun b h1 h2 h3 => by
    rw [Below.heap_alloc _ _ _ (by omega), hA.other b (by simp; omega) h2 h3, Below.heap_alloc _ _ _ h1]
  have hc : ∀ b o, b < wr.heap.size → b ≠ bc → b ≠ ba → (w3.alloc (.cells #[.slice ma n3 mc, .pointer (some pp)] 76)).cell? ⟨b, o, none⟩ = wr.cell? ⟨b, o, none⟩ := fun b o h1 h2 h3 => World.cell?_of_block (w := wr) (ho b h1 h2 h3)
  have hbel : Below w.heap.size w (w3.alloc (.cells #[.slice ma n3 mc, .pointer (some pp)] 76)) := by
    subst hs0
    have := hb.size
    exact (((hb.alloc (by omega) _).trans hA.below).alloc (by omega) _)
  have hnode : (w3.alloc (.cells #[.slice ma n3 mc, .pointer (some pp)] 76)).heap[wr.heap.size]? = some (.cells N 74 (0, 0)) := by
    rw [Below.heap_alloc _ _ _ (by omega), hA.other _ (by simp) (by omega) (by omega)]; exact heap_alloc_new wr _
  have l1 := lt_of_block hL
  have l2 := lt_of_block hK
  have l3 := lt_of_block hbox
  refine ⟨hv0.below hbel, hv3.below hbel, fun j hj => ?_, fun j hj => ?_, fun j hj => ?_, fun h => (hma h).1, ?_, ?_, ?_, ?_, ?_, ?_, ?_, hF, hbel⟩
  · rw [hc _ _ l1 d1 d2, cell_of_row wr _ _ _ _ _ hL]; simpa using (hLK j hj).1
  · rw [hc _ _ l2 d3 d4, hc _ _ l2 d3 d4, cell_of_row wr _ _ _ _ _ hK, cell_of_row wr _ _ _ _ _ hK]
    exact ⟨by simpa using (hLK j hj).2.1, by simpa using (hLK j hj).2.2.1⟩
  · have h := hm j hj
    rw [hc _ _ (World.block_lt_of_cell? _ _ h) (d7 (by omega)) (d8 (by omega))]; exact h
  · rw [World.cell?_alloc_lt _ _ _ (by show bc < _; omega)]; exact cell_of_one hA.calls
  · rw [World.cell?_alloc_lt _ _ _ (by show ba < _; omega)]; exact cell_of_one hA.asked
  · rw [hc _ _ l3 d5 d6]; exact cell_of_one hbox
  · rw [World.cell?_alloc_new]; rfl
  · rw [World.cell?_alloc_new]; rfl
  · rw [cell_of_row _ _ _ _ _ _ hnode]; exact hN4
  · rw [cell_of_row _ _ _ _ _ _ hnode]; exact hN6

end Go.Proofs.Ybulkdywg
