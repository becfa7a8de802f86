/-
  Seat b6277aF: steps of a region that draws its order.
-/
import Derived.Test.YbulkdyyyFmtNode
import Derived.Deep.RegionLaw
namespace Go.Proofs.YbulkdyyyFmt
open Go.RowKit
set_option linter.unusedVariables false

/-- An append as a step of a region that draws. -/
theorem step_append_row {P : Program} {α : Type} {f : α → List Value} {size : Nat} {w : World} {ops : Array Oper} {o : Oper} {A : Act} {K : Act → World → Prop} {Q : Exit → Act → World → Prop} {E : Prop} (hgd : o.guard = none) (sl x : Operand) (t : TypeId)
    (ho : o.op = .call { callee := .builtin .append, args := #[sl, x], argTypes := #[t, t] })
    (hf : ∀ x, (f x).length = size) (hone : ∀ x, ∀ u ∈ f x, u.oneCell' = true) (e : TypeId) (i : TypeInfo) (z : Value) (bytes : Nat) (ht : P.underlying t = some (.slice e)) (hi : P.info? e = some i) (hz : i.zero = some z)
    (hsize : i.size = size) (hby : i.bytes = bytes) (hzs : z.cells.size = size)
    (a : Option Addr) (n c : Nat) (xs : List α) (hs : A.eval sl = .slice a n c) (h : Row f size w a n c xs) (ad : Addr) (m c' : Nat) (ys : List α) (hx : A.eval x = .slice (some ad) m c') (hm : ys.length = m) (hnews : ∀ j u, (ys.flatMap f)[j]? = some u → w.cell? (ad.add j) = some u)
    (hsm : n + m ≤ 2000000) (hbyt : bytes ≤ 1000)
    (hK : ∀ a' c2 w', Row f size w' a' (n + m) c2 (xs ++ ys) → w.grownBy w' (blkOf a) → NewAt w a a' → K (A.put o.dst (.slice a' (n + m) c2)) w') :
    if Region.wanted o (yielded ops A.tmps) = true then Oper.wp P o A w K Q else E := by
  have hw : Region.wanted o (yielded ops A.tmps) = true := by simp [Region.wanted, hgd]
  rw [if_pos hw]
  obtain ⟨a', c2, w', hrun, r1, r2, r3, r4⟩ := run_append_row (P := P) hf hone w t o.type e i z bytes ht hi hz hsize hby hzs a n c xs h ad m c' ys hm hnews hsm hbyt
  unfold Oper.wp
  simp [execOp, ho, resolve, invoke, builtin, hs, hx, hrun, Result.andThen]
  exact hK a' c2 w' r1 r2 r3

/-- A call of a Go function of one argument as a step of a region that draws. -/
theorem step_call1 {w : World} {ops : Array Oper} {o : Oper} {a : Act} {K : Act → World → Prop} {Q : Exit → Act → World → Prop} {E : Prop} (hgd : o.guard = none) (s : Operand) (f : Nat) (t : TypeId)
    (ho : o.op = .call { callee := .value (.func f), args := #[s], argTypes := #[t] }) (arg : Value) (hs : a.eval s = arg) (hgo : ∀ args w, (callFunc f args).run Ybaf.prog w = .ok (.enter f args) w) {R : Value → World → Prop}
    (hc : Calls Ybaf.prog f #[arg] w fun e w' => ∃ v, e = .returned v ∧ R v w') (h : ∀ v w', R v w' → K (a.put o.dst v) w') : if Region.wanted o (yielded ops a.tmps) = true then Oper.wp Ybaf.prog o a w K Q else E := by
  have hw : Region.wanted o (yielded ops a.tmps) = true := by simp [Region.wanted, hgd]
  rw [if_pos hw]
  have hf : a.eval (.func f) = .func (.func f) #[] #[] := rfl
  have hcall : (execOp a.eval o).run Ybaf.prog w = (callFunc f #[arg]).run Ybaf.prog w := by
    simp [execOp, ho, resolve, invoke, hs, hf, Deferred.ofValue]
  unfold Oper.wp
  rw [hcall, hgo]
  simp only [Oper.upon]
  refine hc.mono ?_
  rintro e w' ⟨v, rfl, hr⟩
  exact h v w' hr

section
variable {α : Type} (f : α → List Value) (s : Nat)
/-- Block b is a leaf that holds these values; it and its row lie at or behind D. -/
def LeafIn (D : Nat) (w : World) (b : Nat) (vs : List α) : Prop :=
  ∃ a c, D ≤ b ∧ (∀ k, blkOf a = some k → D ≤ k) ∧ Blk w b #[.slice a vs.length c, .slice none 0 0, .slice none 0 0, .slice none 0 0, .slice none 0 0] ∧ Row f s w a vs.length c vs
end
section
variable {α : Type} {f : α → List Value} {s D : Nat} {w w' : World} {b : Nat} {vs : List α}
theorem LeafIn.leaf (h : LeafIn f s D w b vs) : Leaf f s w.heap.size w b vs := by
  obtain ⟨a, c, h1, h2, h3, h4⟩ := h
  exact ⟨a, c, h3.lt, h4.lt, h3, h4⟩
theorem LeafIn.kept {G : Nat → Prop} (h : LeafIn f s D w b vs) (hk : Kept G w w') (hG : ∀ k, G k → k < D) : LeafIn f s D w' b vs := by
  obtain ⟨a, c, h1, h2, h3, h4⟩ := h
  exact ⟨a, c, h1, h2, h3.kept hk (fun e => by have := hG _ e; omega), h4.kept hk (fun k e g => by have := h2 k e; have := hG _ g; omega)⟩
theorem LeafIn.eqv (h : LeafIn f s D w b vs) (he : w'.heap = w.heap) : LeafIn f s D w' b vs := by
  obtain ⟨a, c, h1, h2, h3, h4⟩ := h
  exact ⟨a, c, h1, h2, h3.eqv (by rw [he]), h4.eqv (fun _ _ => by rw [he])⟩
theorem LeafIn.mono (h : LeafIn f s D w b vs) {D' : Nat} (hD : D' ≤ D) : LeafIn f s D' w b vs := by
  obtain ⟨a, c, h1, h2, h3, h4⟩ := h
  exact ⟨a, c, by omega, fun k e => by have := h2 k e; omega, h3, h4⟩
end

section
variable {α : Type} (f : α → List Value) (s : Nat)
/-- Block b is a leaf that holds these values; it and its row lie in C. -/
def LeafP (C : Nat → Prop) (w : World) (b : Nat) (vs : List α) : Prop :=
  ∃ a c, C b ∧ (∀ k, blkOf a = some k → C k) ∧ Blk w b #[.slice a vs.length c, .slice none 0 0, .slice none 0 0, .slice none 0 0, .slice none 0 0] ∧ Row f s w a vs.length c vs
/-- Block b is a node over these leaves; all of it lies in C. -/
def InnerP (C : Nat → Prop) (w : World) (b : Nat) (vss : List (List α)) : Prop :=
  ∃ ak ck az cs aw cw al cl bs ls, (C b ∧ (∀ k, blkOf ak = some k → C k) ∧ (∀ k, blkOf az = some k → C k) ∧ (∀ k, blkOf al = some k → C k)) ∧
    Blk w b #[.slice none 0 0, .slice ak vss.length ck, .slice az vss.length cs, .slice aw vss.length cw, .slice al vss.length cl] ∧
    Row ptrCells 1 w ak vss.length ck bs ∧ Row intCells 1 w az vss.length cs (vss.map List.length) ∧ Row f s w al vss.length cl ls ∧
    (∀ (i : Nat) (v : α) (vs : List α), ls[i]? = some v → vss[i]? = some vs → vs.getLast? = some v) ∧ ∀ (i b' : Nat) (vs : List α), bs[i]? = some b' → vss[i]? = some vs → LeafP f s C w b' vs
end
section
variable {α : Type} {f : α → List Value} {s : Nat} {C : Nat → Prop} {w w' : World} {b : Nat} {vs : List α} {vss : List (List α)}
theorem LeafP.leaf (h : LeafP f s C w b vs) : Leaf f s w.heap.size w b vs := by
  obtain ⟨a, c, h1, h2, h3, h4⟩ := h
  exact ⟨a, c, h3.lt, h4.lt, h3, h4⟩
theorem LeafP.eqv (h : LeafP f s C w b vs) (he : ∀ k, C k → k < w.heap.size → w'.heap[k]? = w.heap[k]?) : LeafP f s C w' b vs := by
  obtain ⟨a, c, h1, h2, h3, h4⟩ := h
  exact ⟨a, c, h1, h2, h3.eqv (he b h1 h3.lt), h4.eqv (fun k e => he k (h2 k e) (h4.lt k e))⟩
theorem LeafP.kept {G : Nat → Prop} (h : LeafP f s C w b vs) (hk : Kept G w w') (hG : ∀ k, C k → ¬ G k) : LeafP f s C w' b vs :=
  h.eqv fun k hc hl => hk.block k hl (hG k hc)
theorem LeafP.mono (h : LeafP f s C w b vs) {C' : Nat → Prop} (hC : ∀ k, C k → k < w.heap.size → C' k) : LeafP f s C' w b vs := by
  obtain ⟨a, c, h1, h2, h3, h4⟩ := h
  exact ⟨a, c, hC b h1 h3.lt, fun k e => hC k (h2 k e) (h4.lt k e), h3, h4⟩
theorem LeafIn.toP {D : Nat} (h : LeafIn f s D w b vs) : LeafP f s (fun k => D ≤ k) w b vs := h
theorem InnerP.inner (h : InnerP f s C w b vss) : Inner f s w.heap.size w b vss := by
  obtain ⟨ak, ck, az, cs, aw, cw, al, cl, bs, ls, ⟨h1, h2, h3, h4⟩, h5, h6, h7, h8, h9, h10⟩ := h
  exact ⟨ak, ck, az, cs, aw, cw, al, cl, bs, ls, ⟨h5.lt, h6.lt, h7.lt, h8.lt⟩, h5, h6, h7, h8, h9, fun i b' vs e1 e2 => (h10 i b' vs e1 e2).leaf⟩
theorem InnerP.eqv (h : InnerP f s C w b vss) (he : ∀ k, C k → k < w.heap.size → w'.heap[k]? = w.heap[k]?) : InnerP f s C w' b vss := by
  obtain ⟨ak, ck, az, cs, aw, cw, al, cl, bs, ls, ⟨h1, h2, h3, h4⟩, h5, h6, h7, h8, h9, h10⟩ := h
  exact ⟨ak, ck, az, cs, aw, cw, al, cl, bs, ls, ⟨h1, h2, h3, h4⟩, h5.eqv (he b h1 h5.lt), h6.eqv (fun k e => he k (h2 k e) (h6.lt k e)), h7.eqv (fun k e => he k (h3 k e) (h7.lt k e)), h8.eqv (fun k e => he k (h4 k e) (h8.lt k e)), h9, fun i b' vs e1 e2 => (h10 i b' vs e1 e2).eqv he⟩
theorem InnerP.kept {G : Nat → Prop} (h : InnerP f s C w b vss) (hk : Kept G w w') (hG : ∀ k, C k → ¬ G k) : InnerP f s C w' b vss :=
  h.eqv fun k hc hl => hk.block k hl (hG k hc)
end

end Go.Proofs.YbulkdyyyFmt
