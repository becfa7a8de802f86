/-
  Seat b6277aF: the map of runs, as lineSetOf fills it.
-/
import Derived.Test.YbulkdyyyFmtLaw
import Derived.Test.YbulkdyyyFmtCSet
namespace Go.Proofs.YbulkdyyyFmt
open Go.RowKit Go.Sort Go.Shelf
set_option linter.unusedVariables false
set_option linter.unnecessarySimpa false

/-- Some span names the line. -/
def named (xs : List Sn) (k c : Int) : Bool := xs.any (fun s => decide (s.site = k ∧ s.first ≤ c ∧ c ≤ s.last))
def WideS (xs : List Sn) : Prop := ∀ s ∈ xs, U64 s.site ∧ U32 s.first ∧ U32 s.last

/-- The map of runs, once these spans are taken in. -/
structure RM (w0 : World) (mb : Nat) (pre : List Sn) (wr : World) (f : Int → Option Value) (A : Int → Option Addr) : Prop where
  map : VM wr mb pre.length f
  row : ∀ k, U64 k → ∃ n c, (f k).getD (.slice none 0 0) = .slice (A k) n c ∧ Row Rn.cells 2 wr (A k) n c (runsOf pre k)
  far : ∀ k b, U64 k → blkOf (A k) = some b → w0.heap.size ≤ b ∧ b ≠ mb
  apart : ∀ k k' b, U64 k → U64 k' → blkOf (A k) = some b → blkOf (A k') = some b → k = k'
  base : w0.heap.size ≤ mb
  kept : Kept (fun _ => False) w0 wr

theorem RM.eqv {w0 : World} {mb : Nat} {pre : List Sn} {wr wr' : World} {f : Int → Option Value} {A : Int → Option Addr} (h : RM w0 mb pre wr f A) (hk : Kept (fun _ => False) wr wr') : RM w0 mb pre wr' f A :=
  ⟨h.map.kept hk id, fun k hU => by
    obtain ⟨n, c, e1, e2⟩ := h.row k hU
    exact ⟨n, c, e1, e2.kept hk (fun _ _ => id)⟩, h.far, h.apart, h.base, h.kept.trans hk⟩

theorem RM.made (w0 : World) : RM w0 w0.heap.size [] (w0.alloc (.map #[] 0)) (fun _ => none) (fun _ => none) :=
  ⟨VM.made w0, fun k _ => ⟨0, 0, rfl, Row.nil (by omega)⟩, fun k b _ e => by simp [blkOf] at e, fun k k' b _ _ e => by simp [blkOf] at e, Nat.le_refl _, (Kept.refl _ w0).alloc _⟩

theorem RM.skip {w0 : World} {mb : Nat} {pre : List Sn} {wr : World} {f : Int → Option Value} {A : Int → Option Addr} (h : RM w0 mb pre wr f A) {s : Sn} (hs : ¬ s.first ≤ s.last) : RM w0 mb (pre ++ [s]) wr f A := by
  have e : runsOf (pre ++ [s]) = runsOf pre := by
    rw [runsOf_snoc]
    funext k
    unfold takeUp
    rw [if_neg (fun hh => hs hh.1)]
  refine ⟨h.map.mono (by simp), ?_, h.far, h.apart, h.base, h.kept⟩
  rw [e]
  exact h.row

theorem RM.step {w0 : World} {mb : Nat} {pre : List Sn} {wr w2 w3 : World} {f : Int → Option Value} {A : Int → Option Addr} (h : RM w0 mb pre wr f A) {s : Sn} (hs : s.first ≤ s.last) (hU : U64 s.site) {a' : Option Addr} {n' c' : Nat}
    (hk : Kept (fun k => blkOf (A s.site) = some k) wr w2) (hr : Row Rn.cells 2 w2 a' n' c' (pushR (runsOf pre s.site) ⟨s.first, s.last⟩)) (hn : NewAt wr (A s.site) a')
    (hm : VM w3 mb (pre.length + 1) (fun j => if j = s.site then some (.slice a' n' c') else f j)) (hg : w2.grownBy w3 (some mb)) :
    RM w0 mb (pre ++ [s]) w3 (fun j => if j = s.site then some (.slice a' n' c') else f j) (fun j => if j = s.site then a' else A j) := by
  have hws := h.kept.size
  have hml := h.map.lt
  have hfa : ∀ b, blkOf a' = some b → w0.heap.size ≤ b ∧ b ≠ mb := fun b e => by
    rcases hn b e with h1 | h1
    · exact h.far _ _ hU h1
    · omega
  have hE : ∀ k, runsOf (pre ++ [s]) k = if k = s.site then pushR (runsOf pre k) ⟨s.first, s.last⟩ else runsOf pre k := fun k => by
    rw [runsOf_snoc]
    unfold takeUp
    by_cases hk : k = s.site
    · rw [if_pos ⟨hs, hk⟩, if_pos hk]
    · rw [if_neg (fun hh => hk hh.2), if_neg hk]
  have hlt : ∀ k b, U64 k → blkOf (A k) = some b → b < wr.heap.size := fun k b hk e => by
    obtain ⟨n, c, e1, e2⟩ := h.row k hk
    exact e2.lt b e
  refine ⟨by simpa using hm, fun k hk' => ?_, fun k b hk' e => ?_, fun k k' b hk' hk'' e e' => ?_, h.base, ?_⟩
  · rw [hE]
    by_cases he : k = s.site
    · subst he
      simp only [if_true]
      refine ⟨n', c', rfl, hr.grown hg (fun b e e' => ?_)⟩
      cases e'
      exact (hfa mb e).2 rfl
    · simp only [if_neg he]
      obtain ⟨n, c, e1, e2⟩ := h.row k hk'
      refine ⟨n, c, e1, (e2.kept hk (fun b e1 e2' => he (h.apart _ _ _ hk' hU e1 e2'))).grown hg (fun b e e' => ?_)⟩
      cases e'
      exact (h.far k mb hk' e).2 rfl
  · by_cases he : k = s.site
    · subst he
      simp only [if_true] at e
      exact hfa b e
    · simp only [if_neg he] at e
      exact h.far k b hk' e
  · by_cases he : k = s.site
    · by_cases he' : k' = s.site
      · rw [he, he']
      · simp only [if_pos he] at e
        simp only [if_neg he'] at e'
        rcases hn b e with h1 | h1
        · rw [he]
          exact h.apart _ _ _ hU hk'' h1 e'
        · have := hlt k' b hk'' e'
          omega
    · by_cases he' : k' = s.site
      · simp only [if_neg he] at e
        simp only [if_pos he'] at e'
        rcases hn b e' with h1 | h1
        · rw [he']
          exact h.apart _ _ _ hk' hU e h1
        · have := hlt k b hk' e
          omega
      · simp only [if_neg he] at e
        simp only [if_neg he'] at e'
        exact h.apart _ _ _ hk' hk'' e e'
  · refine ⟨(hg.os.trans hk.os).trans h.kept.os, (hg.tape.trans hk.tape).trans h.kept.tape, (hg.output.trans hk.output).trans h.kept.output, Nat.le_trans h.kept.size (Nat.le_trans hk.size hg.size), fun k hkl _ => ?_⟩
    have h2 := hk.size
    have hb := h.base
    refine ((hg.block k (by omega) (fun e => by cases e; omega)).trans (hk.block k (by omega) (fun e => ?_))).trans (h.kept.block k hkl id)
    have := (h.far _ _ hU e).1
    omega

/-- The sets that the second loop has laid: left says which keys are still to come. -/
structure LM (w0 : World) (mb mb2 r N : Nat) (D : DataW Value) (f : Int → Option Value) (R : Int → List Rn) (left : Lit → Bool) (cnt n2 : Nat) (wr : World) (g : Int → Option Value) : Prop where
  rg : wr.ranges Ybaf.prog 39 rawElem mb r N D left cnt
  sub : ∀ k, U64 k → left (.int .u64 k) = true → (f k).isSome = true
  map : VM wr mb2 n2 g
  few : n2 + cnt ≤ N
  done : ∀ k, U64 k → (f k).isSome = true → left (.int .u64 k) = false → ∃ sb, g k = some (.pointer (some ⟨sb, 0, none⟩)) ∧ CSetN w0.heap.size wr sb (R k)
  bare : ∀ k, U64 k → (f k).isSome = false → g k = none
  kept : Kept (fun k => k = mb2 ∨ k = r) w0 wr

theorem LM.step {w0 : World} {mb mb2 r N : Nat} {D : DataW Value} {f g : Int → Option Value} {R : Int → List Rn} {left : Lit → Bool} {cnt cnt' n2 : Nat} {wr w1 w2 w3 : World} {k : Int} {sb : Nat} (h : LM w0 mb mb2 r N D f R left cnt n2 wr g)
    (hb : mb < w0.heap.size) (hb2 : mb2 < w0.heap.size) (hr : r < w0.heap.size) (hne : mb2 ≠ mb) (hne2 : mb2 ≠ r) (hU : U64 k) (hl : left (.int .u64 k) = true)
    (hrg : w1.ranges Ybaf.prog 39 rawElem mb r N D (fun z => left z && !z.sameKey (.int .u64 k)) cnt') (hlt : cnt' < cnt) (hg1 : wr.grownBy w1 (some r)) (hk2 : Kept (fun _ => False) w1 w2) (hcs : CSetN w1.heap.size w2 sb (R k))
    (hm3 : VM w3 mb2 (n2 + 1) (fun j => if j = k then some (.pointer (some ⟨sb, 0, none⟩)) else g j)) (hg3 : w2.grownBy w3 (some mb2)) :
    LM w0 mb mb2 r N D f R (fun z => left z && !z.sameKey (.int .u64 k)) cnt' (n2 + 1) w3 (fun j => if j = k then some (.pointer (some ⟨sb, 0, none⟩)) else g j) := by
  have hs0 := h.kept.size
  have hs1 := hg1.size
  have hs2 := hk2.size
  have hsame : ∀ j, U64 j → (Lit.int .u64 j).sameKey (.int .u64 k) = decide (j = k) := fun j _ => by
    by_cases e : j = k
    · subst e
      simp [Lit.sameKey]
    · simp [Lit.sameKey, e]
  have hk13 : ∀ q, w0.heap.size ≤ q → q < wr.heap.size → w3.heap[q]? = wr.heap[q]? := fun q h1 h2 =>
    ((hg3.block q (by omega) (fun e => by cases e; omega)).trans (hk2.block q (by omega) id)).trans (hg1.block q h2 (fun e => by cases e; omega))
  have hw2g : w1.grownBy w2 none := ⟨hk2.os, hk2.tape, hk2.output, hk2.size, fun q hq _ => hk2.block q hq id⟩
  refine ⟨(hrg.kept hw2g (by simp) (by simp)).kept hg3 (fun e => hne (Option.some.inj e).symm) (fun e => hne2 (Option.some.inj e).symm), fun j hj e => ?_, hm3, by have := h.few; omega, fun j hj e1 e2 => ?_, fun j hj e => ?_, ?_⟩
  · simp only [Bool.and_eq_true] at e
    exact h.sub j hj e.1
  · by_cases he : j = k
    · subst he
      simp only [if_true]
      refine ⟨sb, rfl, (hcs.eqv (fun q h1 h2 => hg3.block q h2 (fun e => by cases e; omega))).mono (by omega)⟩
    · simp only [if_neg he]
      rw [hsame j hj] at e2
      simp [he] at e2
      obtain ⟨sb', q1, q2⟩ := h.done j hj e1 e2
      exact ⟨sb', q1, q2.eqv hk13⟩
  · by_cases he : j = k
    · subst he
      rw [h.sub j hj hl] at e
      cases e
    · simp only [if_neg he]
      exact h.bare j hj e
  · refine ⟨((hg3.os.trans hk2.os).trans hg1.os).trans h.kept.os, ((hg3.tape.trans hk2.tape).trans hg1.tape).trans h.kept.tape, ((hg3.output.trans hk2.output).trans hg1.output).trans h.kept.output, by have := hg3.size; omega, fun q hq hn => ?_⟩
    exact (((hg3.block q (by omega) (fun e => hn (.inl (Option.some.inj e)))).trans (hk2.block q (by omega) id)).trans (hg1.block q (by omega) (fun e => hn (.inr (Option.some.inj e))))).trans (h.kept.block q hq hn)

theorem holds_named {xs ys : List Sn} (hp : ys.Perm xs) (ho : Ordered ys) (k c : Int) : holdsC c (runsOf ys k) = named xs k c := by
  rw [Bool.eq_iff_iff, (runsAt ys ho k).holds c]
  unfold named
  rw [List.any_eq_true]
  constructor
  · rintro ⟨s, hs, e⟩
    exact ⟨s, hp.mem_iff.1 hs, by simpa using e⟩
  · rintro ⟨s, hs, e⟩
    exact ⟨s, hp.mem_iff.2 hs, by simpa using e⟩

/-- The step of the second loop. -/
theorem wpList_next_lm {w0 wr : World} {mb mb2 r N : Nat} {D : DataW Value} {f g : Int → Option Value} {R : Int → List Rn} {A : Int → Option Addr} {left : Lit → Bool} {cnt n2 : Nat} {ops : Array Oper} {rest : List Oper} {o : Oper} {a : Act} {Q : Exit → Act → World → Prop}
    (hg : o.guard = none) (it : Operand) (hop : o.op = Op.next it false) (hat : ∀ k v, U64 k → f k = some v → ∀ d, D.atKey (.int .u64 k) d = .held v) (hrow : ∀ k, U64 k → ∃ n c, (f k).getD (.slice none 0 0) = .slice (A k) n c ∧ Row Rn.cells 2 w0 (A k) n c (R k)) (h : LM w0 mb mb2 r N D f R left cnt n2 wr g)
    (hit : a.eval it = .pointer (some ⟨r, 0, none⟩))
    (hDone : (∀ kl, left kl = false) → wpList Ybaf.prog ops Q rest (a.put o.dst (.tuple #[.bool false])) wr)
    (hMore : ∀ (x : Int) (n c : Nat) (w' : World) (cnt' : Nat), U64 x → left (.int .u64 x) = true → Row Rn.cells 2 w0 (A x) n c (R x) → w'.ranges Ybaf.prog 39 rawElem mb r N D (fun z => left z && !z.sameKey (.int .u64 x)) cnt' → cnt' < cnt →
      wr.grownBy w' (some r) → w'.heap.size = wr.heap.size → (Instr.entry (.pointer (some ⟨r, 0, none⟩))).run Ybaf.prog w' = .ok (.tuple #[.int .u64 x, .slice (A x) n c]) w' → wpList Ybaf.prog ops Q rest (a.put o.dst (.tuple #[.bool true, .int .u64 x, .slice (A x) n c])) w') :
    wpList Ybaf.prog ops Q (o :: rest) a wr := by
  refine wpList_next_ranges wr hg it hop 39 key39 rawElem (fun x : Int => Value.int .u64 x) (fun v : Value => v) (fun key kl hk => ?_) (fun v y _ => ⟨v, rfl⟩) mb r N D left cnt hit h.rg (fun _ => hDone) (fun x v kl y w' cnt' hkey hlk hv hatk hrg hlt hgr hsz hen => ?_)
  · obtain ⟨x, rfl, _⟩ := Maps.keyOf_int_inv Ybaf.underlying39 hk
    exact ⟨x, rfl⟩
  · obtain ⟨x', ex, rfl, hwx⟩ := Maps.keyOf_int_inv Ybaf.underlying39 hkey
    cases ex
    have hU : U64 x := hwx
    obtain ⟨v', hv'⟩ := Option.isSome_iff_exists.1 (h.sub x hU hlk)
    obtain ⟨n, c, e1, r1⟩ := hrow x hU
    have hy := rawElem_inv hv
    have h1 := hatk .nil
    rw [hat x v' hU hv' .nil, hy] at h1
    simp only [DataW.held.injEq] at h1
    subst h1
    rw [hv'] at e1
    simp only [Option.getD_some] at e1
    subst e1
    exact hMore x n c w' cnt' hU hlk r1 hrg hlt hgr hsz hen

end Go.Proofs.YbulkdyyyFmt
