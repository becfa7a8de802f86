/-
  Seat b6277aF: a region that draws its order, with calls and stores, within a round of a range over a function.
-/
import Derived.Test.YbulkdyyyFmtOfKit
import Derived.Test.YbulkdyyyFmtMade
import Derived.OrdersHeld
import Derived.Deep.RegionHeld
namespace Go.Proofs.YbulkdyyyFmt
open Go.RowKit Go.Shelf
set_option linter.unusedVariables false

theorem rowsIn_wide {n : Nat} {P : Program} {row : String} {args : Array Value} {w : World} {R : Value → World → Prop} (h : Rows P row args w R) : RowsIn Fence.wide n P row args w R :=
  fun c cs _ => let ⟨v, w', r, s⟩ := h c cs; ⟨v, w', r, stepsIn_wide.2 s⟩

theorem uponIn_of {n : Nat} {P : Program} {o : Oper} {a : Act} {next : Act → World → Prop} {Q : Exit → Act → World → Prop} {r : Result Next} (h : o.upon P a next Q r) : o.uponIn Fence.wide n P a next Q r := by
  cases r with
  | ok x w' =>
    cases x with
    | value v => exact h
    | skip => exact h
    | defer d => exact h
    | enter f args => exact ⟨fun hh => (Bool.noConfusion hh), callsIn_wide.2 h⟩
    | row row args => exact ⟨fun hh => (Bool.noConfusion hh), rowsIn_wide h⟩
    | _ => exact h.elim
  | halt x w' =>
    cases x with
    | panic v => exact h
    | _ => exact h.elim

theorem wpOpIn_of {n : Nat} {P : Program} {ops : Array Oper} {Q : Exit → Act → World → Prop} (hL : ¬ LetsOut Q) {i : Nat} {K : Act → World → Prop} {a : Act} {w : World} (h : wpOp P ops Q i K a w) : wpOpIn Fence.wide n P ops Q i K a w := by
  unfold wpOp at h
  unfold wpOpIn
  cases ho : ops[i]? with
  | none => rw [ho] at h; exact h
  | some o =>
    rw [ho] at h
    dsimp only at h ⊢
    split at h
    · rename_i hw
      rw [if_pos hw]
      rcases h with h | h
      · exact ⟨fun _ _ => trivial, uponIn_of h⟩
      · exact (hL h.2).elim
    · rename_i hw
      rw [if_neg hw]
      exact ⟨fun _ _ => trivial, h⟩

theorem wpAnyIn_of {n : Nat} {P : Program} {md : Region.Mode} {ops : Array Oper} {Q : Exit → Act → World → Prop} (hL : ¬ LetsOut Q) :
    ∀ (fuel : Nat) (listed : Array Bool) (a : Act) (w : World), wpAny P md ops Q fuel listed a w → wpAnyIn Fence.wide n P md ops Q fuel listed a w
  | 0, _, _, _, h => h
  | fuel + 1, _, _, _, h => ⟨h.1, fun i hi => wpOpIn_of hL (wpOp_mono (fun a' w' h' => wpAnyIn_of hL fuel _ a' w' h') (h.2 i hi))⟩

/-- A region that draws its order, within a round. -/
theorem region_round {lr n : Nat} {P : Program} {id : Nat} {Q : Exit → Act → World → Prop} {a : Act} {w : World} {ops : List Oper} (S : World → Prop) (k : Nat) (hk : ops.length = k) (hd : noDefer ops.toArray = true) (hm : P.follows .mixedOrders = true) (hL : ¬ LetsOut Q) (hS : S w.drew)
    (h : S w.drew → wpAnyH P .any ops.toArray Q S k (Array.replicate k false) a w.drew) : (Code.region id ops.toArray true).wpIn (Fence.wide.inRound lr) n P Q a w := by
  subst hk
  exact wpIn_region_any hm (wpAnyIn_round (noDefer_of hd) _ _ _ _ (wpAnyIn_of hL _ _ _ _ (wpAny_of_held _ _ _ _ (h hS))))

/-- Take number i first, its slot named. -/
theorem wpAnyH_takeD {P : Program} {ops : Array Oper} {Q : Exit → Act → World → Prop} {md : Region.Mode} {S : World → Prop} {i d : Nat} {oi : Oper} {v : Value} {fuel : Nat} {listed : Array Bool} {a : Act} {w : World} (hi : ops[i]? = some oi) (hd : oi.dst = some d)
    (hs : Region.noSelect ops = true) (hf : Region.free md ops listed i = true) (hr : (Region.ready md ops listed).contains i = true)
    (hQ : ∀ c a w, Q (.panic c) (a.put oi.dst v) w → Q (.panic c) a w) (hg : oi.guard = none) (hy : ∀ w, S w → (execOp a.eval oi).run P w = .ok (.value v) w) (hS : S w)
    (h : wpAnyH P md ops Q S fuel (listed.setIfInBounds i true) { a with tmps := a.tmps.setIfInBounds d v } w) : wpAnyH P md ops Q S (fuel + 1) listed a w :=
  wpAnyH_take hi hs hf hr hQ (.inl ⟨by simp [Region.wanted, hg], hy⟩) hS (by rw [hd]; exact h)

/-- An append where there is room. -/
theorem run_append_room_row {P : Program} {α : Type} {f : α → List Value} {size : Nat} (hf : ∀ x, (f x).length = size) (hone : ∀ x, ∀ u ∈ f x, u.oneCell' = true) (w : World) (t ty e : TypeId) (i : TypeInfo) (z : Value) (bytes : Nat) (ht : P.underlying t = some (.slice e)) (hi : P.info? e = some i) (hz : i.zero = some z)
    (hsize : i.size = size) (hby : i.bytes = bytes) (hzs : z.cells.size = size)
    (b o : Nat) (n c : Nat) (xs : List α) (h : Row f size w (some ⟨b, o, none⟩) n c xs) (ad : Addr) (m c' : Nat) (ys : List α) (hm : ys.length = m) (hnews : ∀ j u, (ys.flatMap f)[j]? = some u → w.cell? (ad.add j) = some u)
    (hsm : n + m ≤ 2000000) (hbyt : bytes ≤ 1000) (hroom : n + m ≤ c) :
    ∃ w', (Builtin.append_ #[t, t] ty #[.slice (some ⟨b, o, none⟩) n c, .slice (some ad) m c']).run P w = .ok (.slice (some ⟨b, o, none⟩) (n + m) c) w' ∧ Row f size w' (some ⟨b, o, none⟩) (n + m) c (xs ++ ys) ∧ w.grownBy w' (some b) := by
  obtain ⟨a', c2, w', hrun, r1, r2, r3, r4⟩ := run_append_row (P := P) hf hone w t ty e i z bytes ht hi hz hsize hby hzs _ n c xs h ad m c' ys hm hnews hsm hbyt
  rcases h.row with ⟨h0, _⟩ | ⟨b', o', cs, h1, hb, hfit, hcs⟩
  · cases h0
  · cases h1
    have hyl : (ys.flatMap f).length = m * size := by rw [flatMap_len hf, hm]
    have hn1 : ∀ u ∈ ys.flatMap f, u.oneCell' = true := fun u hu => by
      obtain ⟨x, _, hx⟩ := List.mem_flatMap.1 hu
      exact hone x u hx
    have hle : (n + m) * size ≤ c * size := Nat.mul_le_mul_right _ hroom
    rw [Nat.add_mul] at hle
    have hrun2 := run_append_room_cells (P := P) w t ty e i ht hi b o n c ad m c' (ys.flatMap f) (by rw [hsize]; exact hyl) hnews hn1 hroom
      (fun j hj => by rw [hb.cell, hsize, Array.getElem?_eq_getElem (by omega)]; rfl) (fun j _ => hb.free _)
    rw [hrun] at hrun2
    simp only [Result.ok.injEq, Value.slice.injEq] at hrun2
    obtain ⟨⟨rfl, _, rfl⟩, _⟩ := hrun2
    exact ⟨w', hrun, r1, r2⟩

/-- .. as a step of a region that draws. -/
theorem step_append_room_row {P : Program} {α : Type} {f : α → List Value} {size : Nat} {w : World} {ops : Array Oper} {o : Oper} {A : Act} {K : Act → World → Prop} {Q : Exit → Act → World → Prop} {E : Prop} (hgd : o.guard = none) (sl x : Operand) (t : TypeId)
    (ho : o.op = .call { callee := .builtin .append, args := #[sl, x], argTypes := #[t, t] })
    (hf : ∀ x, (f x).length = size) (hone : ∀ x, ∀ u ∈ f x, u.oneCell' = true) (e : TypeId) (i : TypeInfo) (z : Value) (bytes : Nat) (ht : P.underlying t = some (.slice e)) (hi : P.info? e = some i) (hz : i.zero = some z)
    (hsize : i.size = size) (hby : i.bytes = bytes) (hzs : z.cells.size = size)
    (b of n c : Nat) (xs : List α) (hs : A.eval sl = .slice (some ⟨b, of, none⟩) n c) (h : Row f size w (some ⟨b, of, none⟩) n c xs) (ad : Addr) (m c' : Nat) (ys : List α) (hx : A.eval x = .slice (some ad) m c') (hm : ys.length = m) (hnews : ∀ j u, (ys.flatMap f)[j]? = some u → w.cell? (ad.add j) = some u)
    (hsm : n + m ≤ 2000000) (hbyt : bytes ≤ 1000) (hroom : n + m ≤ c)
    (hK : ∀ w', Row f size w' (some ⟨b, of, none⟩) (n + m) c (xs ++ ys) → w.grownBy w' (some b) → K (A.put o.dst (.slice (some ⟨b, of, none⟩) (n + m) c)) w') :
    if Region.wanted o (yielded ops A.tmps) = true then Oper.wp P o A w K Q else E := by
  have hw : Region.wanted o (yielded ops A.tmps) = true := by simp [Region.wanted, hgd]
  rw [if_pos hw]
  obtain ⟨w', hrun, r1, r2⟩ := run_append_room_row (P := P) hf hone w t o.type e i z bytes ht hi hz hsize hby hzs b of n c xs h ad m c' ys hm hnews hsm hbyt hroom
  unfold Oper.wp
  simp [execOp, ho, resolve, invoke, builtin, hs, hx, hrun, Result.andThen]
  exact hK w' r1 r2

theorem src_ptr {w : World} {b x : Nat} (h : Blk w b #[.pointer (some ⟨x, 0, none⟩)]) : ∀ j u, ([x].flatMap ptrCells)[j]? = some u → w.cell? ((⟨b, 0, none⟩ : Addr).add j) = some u := by
  intro j u hu
  rw [Addr.add_lit, h.cell, Nat.zero_add]
  simpa [ptrCells] using hu

/-- One round of the first loop. -/
theorem lvl_step {α : Type} {f : α → List Value} {s fb rb p D : Nat} {w4 X X1 w5 : World} {vs : List α} {pre : List (Int × Int)} {x : Int × Int} {bs : List Nat} {b : Nat} {ob : Obj} (h : Lvl f s fb rb p D w4 vs pre X bs) (hD : D = w4.heap.size) (hfb : fb < D) (hrb : rb < D) (hne : rb ≠ fb)
    (hk : Kept (fun _ => False) X X1) (hl : LeafIn f s X.heap.size X1 b (cutAt vs x)) (hg : (X1.alloc ob).grownBy w5 (some rb)) (hr : Row ptrCells 1 w5 (some ⟨rb, 0, none⟩) (pre.length + 1) p (bs ++ [b])) :
    Lvl f s fb rb p D w4 vs (pre ++ [x]) (w5.setCell ⟨fb, 0, none⟩ (.slice (some ⟨rb, 0, none⟩) (pre.length + 1) p)) (bs ++ [b]) ∧ Kb fb X (w5.setCell ⟨fb, 0, none⟩ (.slice (some ⟨rb, 0, none⟩) (pre.length + 1) p)) := by
  have hs := h.kb.size
  have hs1 := hk.size
  have hbl : bs.length = pre.length := h.row.len
  have hb5 : Blk w5 fb #[.slice (some ⟨rb, 0, none⟩) pre.length p] := ((h.box.kept hk id).alloc ob).grown hg (fun e => hne (by simpa using e.symm))
  have hb6 : Blk (w5.setCell ⟨fb, 0, none⟩ (.slice (some ⟨rb, 0, none⟩) (pre.length + 1) p)) fb #[.slice (some ⟨rb, 0, none⟩) (pre.length + 1) p] := by simpa using hb5.set 0 (.slice (some ⟨rb, 0, none⟩) (pre.length + 1) p)
  have hbb : boxBlk (w5.setCell ⟨fb, 0, none⟩ (.slice (some ⟨rb, 0, none⟩) (pre.length + 1) p)) fb = some rb := by unfold boxBlk; rw [hb6.cell 0]; rfl
  have hka := hk.alloc ob
  have hK5 : Kept (fun k => k < D) X1 (w5.setCell ⟨fb, 0, none⟩ (.slice (some ⟨rb, 0, none⟩) (pre.length + 1) p)) := by
    have h1 : Kept (fun k => k < D) X1 (X1.alloc ob) := (Kept.refl _ X1).alloc ob
    exact (h1.grown hg (fun k e => by cases e; exact hrb)).setCell (p := ⟨fb, 0, none⟩) hfb _
  have hKb : Kb fb X (w5.setCell ⟨fb, 0, none⟩ (.slice (some ⟨rb, 0, none⟩) (pre.length + 1) p)) := by
    refine ⟨hg.os.trans hka.os, hg.tape.trans hka.tape, hg.output.trans hka.output, ?_, fun k o hk' h1 h2 => ?_, fun k e => ?_⟩
    · have := hg.size
      simp [World.setCell] at this ⊢
      omega
    · have hlt := (Array.getElem?_eq_some_iff.1 hk').1
      rw [h.box_blk] at h2
      rw [heap_setCell_other w5 _ k _ h1, hg.block k (by simp; omega) (fun e => h2 e.symm), Below.heap_alloc _ _ _ (by omega)]
      exact (hk.block k hlt id).trans hk'
    · rw [hbb] at e
      rw [h.box_blk]
      exact .inl e
  refine ⟨⟨by simpa using hb6, ?_, fun i b' q e1 e2 => ?_, h.kb.trans hKb⟩, hKb⟩
  · have := hr.other (b' := fb) (fun e => hne (by simpa [blkOf] using e)) 0 (.slice (some ⟨rb, 0, none⟩) (pre.length + 1) p)
    simpa using this
  · rcases Nat.lt_trichotomy i pre.length with hi | hi | hi
    · rw [List.getElem?_append_left (by omega)] at e1 e2
      exact (((h.leaves i b' q e1 e2).kept hk (fun _ => False.elim))).kept hK5 (fun k e => e)
    · subst hi
      rw [List.getElem?_append_right (by omega), hbl, Nat.sub_self] at e1
      rw [List.getElem?_append_right (by omega), Nat.sub_self] at e2
      simp at e1 e2
      subst e1 e2
      exact (hl.kept hK5 (fun k e => by omega)).mono (by omega)
    · have := (List.getElem?_eq_some_iff.1 e2).1
      simp at this
      omega

section
variable {α : Type} {f : α → List Value} {s : Nat} {C : Nat → Prop} {w w' : World} {b : Nat} {vs : List α} {vss : List (List α)}
theorem LeafP.putN {l : Nat} {o o' : Obj} (h : LeafP f s C w b vs) (hl : w.heap[l]? = some o) (hno : ∀ cs e fz, o ≠ .cells cs e fz) : LeafP f s C (w.putObj l o') b vs := by
  obtain ⟨a, c, h1, h2, h3, h4⟩ := h
  exact ⟨a, c, h1, h2, h3.putN hl hno, h4.putN hl hno⟩
theorem InnerP.putN {l : Nat} {o o' : Obj} (h : InnerP f s C w b vss) (hl : w.heap[l]? = some o) (hno : ∀ cs e fz, o ≠ .cells cs e fz) : InnerP f s C (w.putObj l o') b vss := by
  obtain ⟨ak, ck, az, cs, aw, cw, al, cl, bs, ls, ⟨h1, h2, h3, h4⟩, h5, h6, h7, h8, h9, h10⟩ := h
  exact ⟨ak, ck, az, cs, aw, cw, al, cl, bs, ls, ⟨h1, h2, h3, h4⟩, h5.putN hl hno, h6.putN hl hno, h7.putN hl hno, h8.putN hl hno, h9, fun i b' vs e1 e2 => (h10 i b' vs e1 e2).putN hl hno⟩
end

section
variable {α : Type} (f : α → List Value) (s : Nat)
/-- Block b is the root of a rope that holds these values; all of it lies in C. -/
def RopeP (C : Nat → Prop) (w : World) (b : Nat) (vs : List α) : Prop :=
  (vs ≠ [] ∧ LeafP f s C w b vs) ∨ ∃ vss, 0 < vss.length ∧ (∀ us ∈ vss, us ≠ []) ∧ vss.flatten = vs ∧ InnerP f s C w b vss
end
section
variable {α : Type} {f : α → List Value} {s : Nat} {C : Nat → Prop} {w w' : World} {b : Nat} {vs : List α}
theorem RopeP.eqv (h : RopeP f s C w b vs) (he : ∀ k, C k → k < w.heap.size → w'.heap[k]? = w.heap[k]?) : RopeP f s C w' b vs :=
  orMap h (fun ⟨x, y⟩ => ⟨x, y.eqv he⟩) (fun ⟨vss, x, y, z, u⟩ => ⟨vss, x, y, z, u.eqv he⟩)
theorem RopeP.putN {l : Nat} {o o' : Obj} (h : RopeP f s C w b vs) (hl : w.heap[l]? = some o) (hno : ∀ cs e fz, o ≠ .cells cs e fz) : RopeP f s C (w.putObj l o') b vs :=
  orMap h (fun ⟨x, y⟩ => ⟨x, y.putN hl hno⟩) (fun ⟨vss, x, y, z, u⟩ => ⟨vss, x, y, z, u.putN hl hno⟩)
theorem RopeP.rope (h : RopeP f s C w b vs) : RopeAt f s w.heap.size w (some ⟨b, 0, none⟩) vs :=
  .inr ⟨b, rfl, orMap h (fun ⟨x, y⟩ => ⟨x, y.leaf⟩) (fun ⟨vss, x, y, z, u⟩ => ⟨vss, x, y, z, u.inner⟩)⟩
end

/-- The result's four cells are laid. -/
theorem set4 {X : World} {g : Nat} {u0 u1 u2 u3 : Value} (h : Blk X g #[u0, u1, u2, u3]) (v0 v1 v2 v3 : Value) :
    Blk (((((X.setCell ⟨g, 0, none⟩ v0).setCell ⟨g, 1, none⟩ v1).setCell ⟨g, 2, none⟩ v2).setCell ⟨g, 3, none⟩ v3).drew) g #[v0, v1, v2, v3] ∧
    Kept (fun k => k = g) X (((((X.setCell ⟨g, 0, none⟩ v0).setCell ⟨g, 1, none⟩ v1).setCell ⟨g, 2, none⟩ v2).setCell ⟨g, 3, none⟩ v3).drew) := by
  refine ⟨?_, (((((Kept.refl (fun k => k = g) X).setCell (p := ⟨g, 0, none⟩) rfl _).setCell (p := ⟨g, 1, none⟩) rfl _).setCell (p := ⟨g, 2, none⟩) rfl _).setCell (p := ⟨g, 3, none⟩) rfl _).drew⟩
  have := (((h.set 0 v0).set 1 v1).set 2 v2).set 3 v3
  simp at this
  exact this.eqv rfl

theorem cutAt_all {α : Type} (vs : List α) (n : Nat) (h : vs.length = n) : cutAt vs (rangeAt n 1 0) = vs := by
  rw [rangeAt_nat]
  simp [cutAt, ← h]

/-- What the second loop has laid. -/
structure UpI {α : Type} (f : α → List Value) (s ub ur : Nat) (C : Nat → Prop) (w6 : World) (vss : List (List α)) (pre : List (Int × Int)) (Y : World) (us : List Nat) : Prop where
  box : Blk Y ub #[.slice (some ⟨ur, 0, none⟩) pre.length 1]
  row : Row ptrCells 1 Y (some ⟨ur, 0, none⟩) pre.length 1 us
  node : ∀ b, us[0]? = some b → InnerP f s C Y b vss
  kb : Kb ub w6 Y
section
variable {α : Type} {f : α → List Value} {s ub ur : Nat} {C : Nat → Prop} {w6 Y : World} {vss : List (List α)} {pre : List (Int × Int)} {us : List Nat}
theorem UpI.box_blk (h : UpI f s ub ur C w6 vss pre Y us) : boxBlk Y ub = some ur := by
  unfold boxBlk
  rw [h.box.cell 0]
  rfl
theorem UpI.steady (hf : ub < w6.heap.size) : Steady w6.heap.size (fun pre Y => ∃ us, UpI f s ub ur C w6 vss pre Y us) :=
  ⟨fun pre Y o ⟨us, h⟩ => ⟨us, h.box.alloc _, h.row.alloc _, fun b e => (h.node b e).eqv (fun k _ hl => Below.heap_alloc _ _ _ hl), h.kb.alloc h.box.lt _⟩,
   fun pre Y q ⟨us, h⟩ => ⟨us, h.box.eqv rfl, h.row.eqv (fun _ _ => rfl), fun b e => (h.node b e).eqv (fun k _ hl => rfl), h.kb.drewN _⟩,
   fun pre Y l r r' hl hr ⟨us, h⟩ => ⟨us, h.box.putN hr (fun _ _ _ e => by cases e), h.row.putN hr (fun _ _ _ e => by cases e), fun b e => (h.node b e).putN hr (fun _ _ _ e => by cases e), h.kb.put hl hf _⟩,
   fun pre Y l ds o hl hr ⟨us, h⟩ => ⟨us, h.box.putN hr (fun _ _ _ e => by cases e), h.row.putN hr (fun _ _ _ e => by cases e), fun b e => (h.node b e).putN hr (fun _ _ _ e => by cases e), h.kb.put hl hf _⟩⟩
theorem UpI.rows (h : UpI f s ub ur C w6 vss pre Y us) {k : Nat} (e : boxBlk Y ub = some k) : ∃ cs e fz, Y.heap[k]? = some (.cells cs e fz) := by
  rw [h.box_blk] at e
  cases e
  rcases h.row.row with ⟨h0, _⟩ | ⟨b, o, cs, h1, ⟨e', hb⟩, _⟩
  · cases h0
  · cases h1
    exact ⟨_, _, _, hb⟩
end

/-- The one round of the second loop. -/
theorem up_step {α : Type} {f : α → List Value} {s ub ur : Nat} {C : Nat → Prop} {w6 Z X1 w5 : World} {vss : List (List α)} {x : Int × Int} {us : List Nat} {b : Nat} {ob : Obj} (h : UpI f s ub ur C w6 vss [] Z us) (hne : ur ≠ ub) (hC : ∀ k, C k → k ≠ ub ∧ k ≠ ur)
    (hk : Kept (fun _ => False) Z X1) (hl : InnerP f s C X1 b vss) (hg : (X1.alloc ob).grownBy w5 (some ur)) (hr : Row ptrCells 1 w5 (some ⟨ur, 0, none⟩) (0 + 1) 1 ([] ++ [b])) :
    UpI f s ub ur C w6 vss [x] (w5.setCell ⟨ub, 0, none⟩ (.slice (some ⟨ur, 0, none⟩) (0 + 1) 1)) [b] ∧ Kb ub Z (w5.setCell ⟨ub, 0, none⟩ (.slice (some ⟨ur, 0, none⟩) (0 + 1) 1)) := by
  have hs := h.kb.size
  have hs1 := hk.size
  have hb5 : Blk w5 ub #[.slice (some ⟨ur, 0, none⟩) 0 1] := ((h.box.kept hk id).alloc ob).grown hg (fun e => hne (by simpa using e.symm))
  have hb6 : Blk (w5.setCell ⟨ub, 0, none⟩ (.slice (some ⟨ur, 0, none⟩) (0 + 1) 1)) ub #[.slice (some ⟨ur, 0, none⟩) (0 + 1) 1] := by simpa using hb5.set 0 (.slice (some ⟨ur, 0, none⟩) (0 + 1) 1)
  have hbb : boxBlk (w5.setCell ⟨ub, 0, none⟩ (.slice (some ⟨ur, 0, none⟩) (0 + 1) 1)) ub = some ur := by unfold boxBlk; rw [hb6.cell 0]; rfl
  have hka := hk.alloc ob
  have hK5 : Kept (fun k => k = ub ∨ k = ur) X1 (w5.setCell ⟨ub, 0, none⟩ (.slice (some ⟨ur, 0, none⟩) (0 + 1) 1)) := by
    have h1 : Kept (fun k => k = ub ∨ k = ur) X1 (X1.alloc ob) := (Kept.refl _ X1).alloc ob
    exact (h1.grown hg (fun k e => by cases e; exact .inr rfl)).setCell (p := ⟨ub, 0, none⟩) (.inl rfl) _
  have hKb : Kb ub Z (w5.setCell ⟨ub, 0, none⟩ (.slice (some ⟨ur, 0, none⟩) (0 + 1) 1)) := by
    refine ⟨hg.os.trans hka.os, hg.tape.trans hka.tape, hg.output.trans hka.output, ?_, fun k o hk' h1 h2 => ?_, fun k e => ?_⟩
    · have := hg.size
      simp [World.setCell] at this ⊢
      omega
    · have hlt := (Array.getElem?_eq_some_iff.1 hk').1
      rw [h.box_blk] at h2
      rw [heap_setCell_other w5 _ k _ h1, hg.block k (by simp; omega) (fun e => h2 e.symm), Below.heap_alloc _ _ _ (by omega)]
      exact (hk.block k hlt id).trans hk'
    · rw [hbb] at e
      rw [h.box_blk]
      exact .inl e
  refine ⟨⟨by simpa using hb6, ?_, fun b' e1 => ?_, h.kb.trans hKb⟩, hKb⟩
  · have := hr.other (b' := ub) (fun e => hne (by simpa [blkOf] using e)) 0 (.slice (some ⟨ur, 0, none⟩) (0 + 1) 1)
    simpa using this
  · simp at e1
    subst e1
    exact hl.kept hK5 (fun k hc e => e.elim (hC k hc).1 (hC k hc).2)

theorem ranges_one {p : Nat} {pre : List (Int × Int)} {x : Int × Int} (h : pre ++ [x] <+: rangesOf p 1) : pre = [] ∧ x = ((0 : Int), (p : Int)) := by
  obtain ⟨h1, h2, h3⟩ := ranges_at h
  have h0 : pre.length = 0 := by omega
  rw [h0, rangeAt_nat] at h3
  exact ⟨List.length_eq_zero_iff.1 h0, by simpa using h3⟩

theorem InnerP.mono {α : Type} {f : α → List Value} {s : Nat} {C C' : Nat → Prop} {w : World} {b : Nat} {vss : List (List α)} (h : InnerP f s C w b vss) (hC : ∀ k, C k → k < w.heap.size → C' k) : InnerP f s C' w b vss := by
  obtain ⟨ak, ck, az, cs, aw, cw, al, cl, bs, ls, ⟨h1, h2, h3, h4⟩, h5, h6, h7, h8, h9, h10⟩ := h
  exact ⟨ak, ck, az, cs, aw, cw, al, cl, bs, ls, ⟨hC b h1 h5.lt, fun k e => hC k (h2 k e) (h6.lt k e), fun k e => hC k (h3 k e) (h7.lt k e), fun k e => hC k (h4 k e) (h8.lt k e)⟩, h5, h6, h7, h8, h9, fun i b' vs e1 e2 => (h10 i b' vs e1 e2).mono hC⟩

/-- A call of a Go function of three arguments as a step of a region that draws. -/
theorem step_call3 {w : World} {ops : Array Oper} {o : Oper} {a : Act} {K : Act → World → Prop} {Q : Exit → Act → World → Prop} {E : Prop} (hgd : o.guard = none) (s1 s2 s3 : Operand) (f : Nat) (t1 t2 t3 : TypeId)
    (ho : o.op = .call { callee := .value (.func f), args := #[s1, s2, s3], argTypes := #[t1, t2, t3] }) (a1 a2 a3 : Value) (h1 : a.eval s1 = a1) (h2 : a.eval s2 = a2) (h3 : a.eval s3 = a3) (hgo : ∀ args w, (callFunc f args).run Ybaf.prog w = .ok (.enter f args) w) {R : Value → World → Prop}
    (hc : Calls Ybaf.prog f #[a1, a2, a3] w fun e w' => ∃ v, e = .returned v ∧ R v w') (h : ∀ v w', R v w' → K (a.put o.dst v) w') : if Region.wanted o (yielded ops a.tmps) = true then Oper.wp Ybaf.prog o a w K Q else E := by
  have hw : Region.wanted o (yielded ops a.tmps) = true := by simp [Region.wanted, hgd]
  rw [if_pos hw]
  have hf : a.eval (.func f) = .func (.func f) #[] #[] := rfl
  have hcall : (execOp a.eval o).run Ybaf.prog w = (callFunc f #[a1, a2, a3]).run Ybaf.prog w := by
    simp [execOp, ho, resolve, invoke, h1, h2, h3, hf, Deferred.ofValue]
  unfold Oper.wp
  rw [hcall, hgo]
  simp only [Oper.upon]
  refine hc.mono ?_
  rintro e w' ⟨v, rfl, hr⟩
  exact h v w' hr

theorem flatten_upto {α : Type} (vs : List α) (n p : Nat) : ∀ k, (((List.range k).map (rangeAt n p)).map (cutAt vs)).flatten = vs.take (k * n / p)
  | 0 => by simp
  | k + 1 => by
    rw [List.range_succ, List.map_append, List.map_append, List.flatten_append, flatten_upto vs n p k]
    have hle : k * n / p ≤ (k + 1) * n / p := Nat.div_le_div_right (Nat.mul_le_mul_right n (Nat.le_succ k))
    simp only [List.map_cons, List.map_nil, List.flatten_cons, List.flatten_nil, List.append_nil, rangeAt_nat, cutAt, Int.toNat_natCast]
    rw [← List.take_add]
    congr 1
    omega

theorem flatten_ranges {α : Type} (vs : List α) (n p : Nat) (hp : 0 < p) (hl : vs.length = n) : ((rangesOf n p).map (cutAt vs)).flatten = vs := by
  unfold rangesOf
  rw [flatten_upto, Nat.mul_div_cancel_left _ hp]
  exact List.take_of_length_le (by omega)

theorem RopeP.mono {α : Type} {f : α → List Value} {s : Nat} {C C' : Nat → Prop} {w : World} {b : Nat} {vs : List α} (h : RopeP f s C w b vs) (hC : ∀ k, C k → k < w.heap.size → C' k) : RopeP f s C' w b vs :=
  orMap h (fun ⟨x, y⟩ => ⟨x, y.mono hC⟩) (fun ⟨vss, x, y, z, u⟩ => ⟨vss, x, y, z, u.mono hC⟩)

/-- A rope, nil or not, all of it at or behind D. -/
def RopeN {α : Type} (f : α → List Value) (s D : Nat) (w : World) (root : Option Addr) (vs : List α) : Prop :=
  (vs = [] ∧ root = none) ∨ ∃ b, root = some ⟨b, 0, none⟩ ∧ RopeP f s (fun k => D ≤ k) w b vs
theorem RopeN.rope {α : Type} {f : α → List Value} {s D : Nat} {w : World} {root : Option Addr} {vs : List α} (h : RopeN f s D w root vs) : RopeAt f s w.heap.size w root vs := by
  rcases h with h | ⟨b, rfl, h⟩
  · exact .inl h
  · exact h.rope
theorem RopeN.eqv {α : Type} {f : α → List Value} {s D : Nat} {w w' : World} {root : Option Addr} {vs : List α} (h : RopeN f s D w root vs) (he : ∀ k, D ≤ k → k < w.heap.size → w'.heap[k]? = w.heap[k]?) : RopeN f s D w' root vs :=
  orMap h id fun ⟨b, h1, h2⟩ => ⟨b, h1, h2.eqv he⟩
theorem RopeN.mono {α : Type} {f : α → List Value} {s D D' : Nat} {w : World} {root : Option Addr} {vs : List α} (h : RopeN f s D w root vs) (hD : D' ≤ D) : RopeN f s D' w root vs :=
  orMap h id fun ⟨b, h1, h2⟩ => ⟨b, h1, h2.mono (fun k hk _ => Nat.le_trans hD hk)⟩

end Go.Proofs.YbulkdyyyFmt
