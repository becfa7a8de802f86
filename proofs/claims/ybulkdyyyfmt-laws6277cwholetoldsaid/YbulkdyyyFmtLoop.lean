/-
  Seat b6277aF: a range over a function whose body appends to one slice variable and never leaves early.
-/
import Derived.Test.YbulkdyyyFmtRow
import Derived.RangeFuncNested
import Derived.RangeFuncBound
namespace Go.Proofs.YbulkdyyyFmt
open Go.RowKit
set_option linter.unusedVariables false

/-- The block in which the row of the slice that lies in box fb begins. -/
def boxBlk (W : World) (fb : Nat) : Option Nat := match W.cell? ⟨fb, 0, none⟩ with | some (.slice a _ _) => blkOf a | _ => none

theorem boxBlk_eqv {W W' : World} {fb : Nat} (h : W'.heap[fb]? = W.heap[fb]?) : boxBlk W' fb = boxBlk W fb := by
  unfold boxBlk
  rw [World.cell?_of_block (w := W) (w' := W') h]

/-- All that lay in W, but the box fb and its row, lies as it lay. -/
structure Kb (fb : Nat) (W W' : World) : Prop where
  os : W'.os = W.os
  tape : W'.tape = W.tape
  output : W'.output = W.output
  size : W.heap.size ≤ W'.heap.size
  same : ∀ k o, W.heap[k]? = some o → k ≠ fb → boxBlk W fb ≠ some k → W'.heap[k]? = some o
  new : ∀ k, boxBlk W' fb = some k → boxBlk W fb = some k ∨ W.heap.size ≤ k

theorem Kb.refl (fb : Nat) (W : World) : Kb fb W W := ⟨rfl, rfl, rfl, Nat.le_refl _, fun _ _ h _ _ => h, fun _ h => .inl h⟩
theorem Kb.trans {fb : Nat} {A B C : World} (h : Kb fb A B) (k : Kb fb B C) : Kb fb A C :=
  ⟨k.os.trans h.os, k.tape.trans h.tape, k.output.trans h.output, Nat.le_trans h.size k.size,
    fun i o hi h1 h2 => k.same i o (h.same i o hi h1 h2) h1 (fun e => by
      rcases h.new i e with e1 | e1
      · exact h2 e1
      · have := (Array.getElem?_eq_some_iff.1 hi).1; omega),
    fun i hi => by
      rcases k.new i hi with e1 | e1
      · exact h.new i e1
      · have := h.size; exact .inr (by omega)⟩
theorem Kb.alloc {fb : Nat} {A W : World} (h : Kb fb A W) (hf : fb < W.heap.size) (o : Obj) : Kb fb A (W.alloc o) :=
  h.trans ⟨rfl, rfl, rfl, by simp, fun k o' hk _ _ => (Below.heap_alloc _ _ _ (Array.getElem?_eq_some_iff.1 hk).1).trans hk, fun k hk => .inl (by rwa [boxBlk_eqv (Below.heap_alloc _ _ _ hf)] at hk)⟩
theorem Kb.drewN {fb : Nat} {A W : World} (h : Kb fb A W) (q : Nat) : Kb fb A (W.drewN q) := ⟨h.os, h.tape, h.output, h.size, h.same, h.new⟩
theorem Kb.drew {fb : Nat} {A W : World} (h : Kb fb A W) : Kb fb A W.drew := ⟨h.os, h.tape, h.output, h.size, h.same, h.new⟩
theorem Kb.cell {fb : Nat} {A W : World} (h : Kb fb A W) {p : Addr} {v : Value} (hp : A.cell? p = some v) (h1 : p.block ≠ fb) (h2 : boxBlk A fb ≠ some p.block) : W.cell? p = some v := by
  have hl := World.block_lt_of_cell? A p hp
  obtain ⟨o, ho⟩ : ∃ o, A.heap[p.block]? = some o := ⟨_, Array.getElem?_eq_getElem hl⟩
  rw [World.cell?_of_block (w := A) ((h.same _ _ ho h1 h2).trans ho.symm)]
  exact hp
theorem Kb.eqv {fb : Nat} {A W : World} (h : Kb fb A W) {k : Nat} (hl : k < A.heap.size) (h1 : k ≠ fb) (h2 : boxBlk A fb ≠ some k) : W.heap[k]? = A.heap[k]? := by
  obtain ⟨o, ho⟩ : ∃ o, A.heap[k]? = some o := ⟨_, Array.getElem?_eq_getElem hl⟩
  exact (h.same _ _ ho h1 h2).trans ho.symm

/-- What an iterator's own steps leave standing: blocks are laid; draws are made; a loop's record that was laid at or behind B turns. -/
structure Steady {α : Type} (B : Nat) (J : List α → World → Prop) : Prop where
  alloc : ∀ pre W o, J pre W → J pre (W.alloc o)
  drewN : ∀ pre W q, J pre W → J pre (W.drewN q)
  loop : ∀ pre W l r r', B ≤ l → W.heap[l]? = some (.loop r) → J pre W → J pre (W.putObj l (.loop r'))
  shut : ∀ pre W l ds o, B ≤ l → W.heap[l]? = some (.deferred ds) → J pre W → J pre (W.putObj l (.deferred o))

/-- An iterator that gives xs, all of them, to a yield that always goes on. -/
def Iter {α : Type} (P : Program) (g : Nat) (lb : Array Value) (encs : α → Array Value) (fb : Nat) (xs : List α) (Pre : World → Prop) : Prop :=
  ∀ (l : Nat) (J : List α → World → Prop) (W : World), Pre W → fb < W.heap.size → Steady W.heap.size J → (∀ pre W1 k, J pre W1 → boxBlk W1 fb = some k → ∃ cs e fz, W1.heap[k]? = some (.cells cs e fz)) →
    (∀ pre x W1 m, J pre W1 → pre ++ [x] <+: xs → YieldAt Fence.wide m P l (encs x) W1 fun e W' => e = .returned (.bool true) ∧ J (pre ++ [x]) W' ∧ Kb fb W1 W') →
    J [] W → Calls P g (#[.func (.yield l) #[] #[]] ++ lb) W fun e W' => (∃ v, e = .returned v) ∧ J xs W' ∧ Kb fb W W'

theorem boxBlk_putObj {W : World} {fb l : Nat} (h : fb ≠ l) (o : Obj) : boxBlk (W.putObj l o) fb = boxBlk W fb := boxBlk_eqv (World.putObj_heap_other h)

theorem Kb.put {fb l : Nat} {A W : World} (h : Kb fb A W) (hl : A.heap.size ≤ l) (hf : fb < A.heap.size) (o : Obj) : Kb fb A (W.putObj l o) :=
  ⟨h.os, h.tape, h.output, by simpa using h.size, fun k o' hk h1 h2 => by
    have := (Array.getElem?_eq_some_iff.1 hk).1
    exact (World.putObj_heap_other (by omega)).trans (h.same k o' hk h1 h2),
   fun k hk => by rw [boxBlk_putObj (by omega)] at hk; exact h.new k hk⟩

theorem rangeFunc_go {α : Type} {P : Program} {n : Nat} {g : Operand} {ps : Array Tmp} {assign body : Code} {Q : Exit → Act → World → Prop} {a : Act} {w : World}
    {gf : Nat} {lb : Array Value} (hg : a.eval g = .func (.func gf) #[] lb) (eg : ∀ args w, (callFunc gf args).run P w = .ok (.enter gf args) w)
    {encs : α → Array Value} (hps : ∀ x, (encs x).size = ps.size) {fb : Nat} {xs : List α} {Pre : World → Prop} (hiter : Iter P gf lb encs fb xs Pre) (hfb : fb < w.heap.size)
    (hpre : ∀ o1 o2, Pre ((w.alloc o1).alloc o2))
    (I : List α → World → Prop) (hI : Steady w.heap.size I) (hrow : ∀ pre W k, I pre W → boxBlk W fb = some k → ∃ cs e fz, W.heap[k]? = some (.cells cs e fz)) (h0 : I [] w)
    (A : α → Act → World → Prop) (hA : ∀ x a1, Steady (α := Unit) w.heap.size (fun _ W => A x a1 W))
    (hassign : ∀ l pre x W m, I pre W → pre ++ [x] <+: xs → assign.wpIn (Fence.wide.inRound l) m P (Exit.then (fun a1 W1 => I pre W1 ∧ Kb fb W W1 ∧ A x a1 W1) (fun _ _ _ => False)) { tmps := (ps.zip (encs x)).foldl (fun t (p, v) => t.setIfInBounds p v) a.tmps, defers := [] } W)
    (hbody : ∀ l pre x a1 W m, I pre W → A x a1 W → pre ++ [x] <+: xs → body.wpIn (Fence.wide.inRound l) m P (fun e _ W' => e = .normal ∧ I (pre ++ [x]) W' ∧ Kb fb W W') a1 W)
    (hdone : ∀ D W, w.heap.size ≤ D → I xs W → Kb fb w W → W.heap[D]? = some (.deferred (some [])) → Q .normal { a with defers := { target := .collected D, args := #[] } :: a.defers } W) :
    (Code.rangeFunc g ps assign body).wpIn Fence.wide n P Q a w := by
  refine wpIn_rangeFunc fun fn hfn => ?_
  obtain ⟨rec, hrec⟩ : ∃ rec : Loop, rec = { state := .ready, pending := none, fn, tmps := a.tmps, params := ps, assign, body, defers := w.heap.size } := ⟨_, rfl⟩
  obtain ⟨W1, hW1⟩ : ∃ W1, (w.alloc (.deferred (some []))).alloc (.loop rec) = W1 := ⟨_, rfl⟩
  have hs1 : W1.heap.size = w.heap.size + 2 := by rw [← hW1]; simp
  have hL1 : W1.heap[w.heap.size + 1]? = some (.loop rec) := by
    rw [← hW1]
    have := World.alloc_heap_new (w.alloc (.deferred (some []))) (.loop rec)
    rwa [World.size_alloc] at this
  have hD1 : W1.heap[w.heap.size]? = some (.deferred (some [])) := by
    rw [← hW1]
    exact (Below.heap_alloc _ _ _ (by simp)).trans (World.alloc_heap_new w _)
  have hI1 : I [] W1 := by rw [← hW1]; exact hI.alloc _ _ _ (hI.alloc _ _ _ h0)
  have hk1 : Kb fb w W1 := by rw [← hW1]; exact ((Kb.refl fb w).alloc hfb _).alloc (by simp; omega) _
  have hnb : ∀ pre W k o, I pre W → W.heap[k]? = some o → (∀ cs e fz, o ≠ .cells cs e fz) → boxBlk W fb ≠ some k := fun pre W k o hi ho hno e => by
    obtain ⟨cs, e', fz, hc⟩ := hrow pre W k hi e
    rw [ho] at hc
    exact hno cs e' fz (Option.some.inj hc)
  refine ⟨w.heap.size + 1, [{ target := .collected w.heap.size, args := #[] }], W1, { target := .fn (.func gf) lb, args := #[.func (.yield (w.heap.size + 1)) #[] #[]] }, W1, gf,
    #[.func (.yield (w.heap.size + 1)) #[] #[]] ++ lb, W1, ?_, ?_, ?_, ?_, ?_, ?_⟩
  · rw [← hW1, hrec]
    exact run_enterLoop_outer _ _ _ _ _
  · simp only [resolve, hg]
    simp [go_sem]
  · intro f' hf'
    trivial
  · simp [invoke, go_sem, eg]
  · intro h
    cases h
  · refine callsIn_wide.2 ?_
    refine (hiter (w.heap.size + 1) (fun pre W => I pre W ∧ W.heap[w.heap.size + 1]? = some (.loop rec) ∧ W.heap[w.heap.size]? = some (.deferred (some []))) W1 (by rw [← hW1]; exact hpre _ _) (by omega) ?_ (fun pre W k h e => hrow pre W k h.1 e) ?_ ⟨hI1, hL1, hD1⟩).mono ?_
    · refine ⟨fun pre W o h => ⟨hI.alloc _ _ _ h.1, (Below.heap_alloc _ _ _ (Array.getElem?_eq_some_iff.1 h.2.1).1).trans h.2.1, (Below.heap_alloc _ _ _ (Array.getElem?_eq_some_iff.1 h.2.2).1).trans h.2.2⟩,
        fun pre W q h => ⟨hI.drewN _ _ _ h.1, h.2.1, h.2.2⟩, fun pre W l r r' hl hr h => ?_, fun pre W l ds o hl hr h => ?_⟩
      · exact ⟨hI.loop _ _ _ _ _ (by omega) hr h.1, (World.putObj_heap_other (by omega)).trans h.2.1, (World.putObj_heap_other (by omega)).trans h.2.2⟩
      · exact ⟨hI.shut _ _ _ _ _ (by omega) hr h.1, (World.putObj_heap_other (by omega)).trans h.2.1, (World.putObj_heap_other (by omega)).trans h.2.2⟩
    · rintro pre x W m ⟨hi, hl, hd⟩ hpx
      have hy := run_yield (P := P) (args := encs x) hl (by rw [hrec]; exact hps x)
      rw [hrec] at hy
      refine ⟨fn, _, assign, body, hy, roundIn_of_wpIn trivial ?_⟩
      refine wpIn_mono (hassign _ pre x W _ hi hpx) ?_
      rintro e a1 Wa hpost
      cases e with
      | normal =>
        obtain ⟨hia, hka, haa⟩ := hpost
        have hLne : (w.heap.size + 1) ≠ fb := by omega
        have hDne : w.heap.size ≠ fb := by omega
        have hla : Wa.heap[w.heap.size + 1]? = some (.loop rec) := hka.same _ _ hl hLne (hnb pre W _ _ hi hl (fun _ _ _ h => by cases h))
        have hda : Wa.heap[w.heap.size]? = some (.deferred (some [])) := hka.same _ _ hd hDne (hnb pre W _ _ hi hd (fun _ _ _ h => by cases h))
        have hlt : w.heap.size + 1 < Wa.heap.size := (Array.getElem?_eq_some_iff.1 hla).1
        refine ⟨_, run_beginRound hla (by rw [hrec]), ?_⟩
        obtain ⟨W2, hW2⟩ : ∃ W2, Wa.putObj (w.heap.size + 1) (.loop { rec with state := .busy }) = W2 := ⟨_, rfl⟩
        have hl2 : W2.heap[w.heap.size + 1]? = some (.loop { rec with state := .busy }) := by rw [← hW2]; exact World.putObj_heap_same hlt
        have hd2 : W2.heap[w.heap.size]? = some (.deferred (some [])) := by rw [← hW2]; exact (World.putObj_heap_other (by omega)).trans hda
        have hi2 : I pre W2 := by rw [← hW2]; exact hI.loop _ _ _ _ _ (by omega) hla hia
        have ha2 : A x a1 W2 := by rw [← hW2]; exact (hA x a1).loop [] _ _ _ _ (by omega) hla haa
        have hb2 : boxBlk W2 fb = boxBlk Wa fb := by rw [← hW2]; exact boxBlk_putObj (by omega) _
        rw [hW2]
        refine wpIn_mono (hbody _ pre x a1 W2 _ hi2 ha2 hpx) ?_
        rintro e a3 W3 ⟨rfl, hi3, hk3⟩
        have hl3 : W3.heap[w.heap.size + 1]? = some (.loop { rec with state := .busy }) := hk3.same _ _ hl2 hLne (hnb pre W2 _ _ hi2 hl2 (fun _ _ _ h => by cases h))
        have hd3 : W3.heap[w.heap.size]? = some (.deferred (some [])) := hk3.same _ _ hd2 hDne (hnb pre W2 _ _ hi2 hd2 (fun _ _ _ h => by cases h))
        have hlt3 : w.heap.size + 1 < W3.heap.size := (Array.getElem?_eq_some_iff.1 hl3).1
        have hend := run_endRound (P := P) none hl3
        have hre : ({ { rec with state := .busy } with state := if (none : Option Code).isNone then .ready else .done, pending := none } : Loop) = rec := by rw [hrec]; rfl
        rw [hre] at hend
        refine ⟨_, _, hend, rfl, ⟨hI.loop _ _ _ _ _ (by omega) hl3 hi3, World.putObj_heap_same hlt3, (World.putObj_heap_other (by omega)).trans hd3⟩, ?_⟩
        refine hka.trans ⟨hk3.os.trans (by rw [← hW2]; rfl), hk3.tape.trans (by rw [← hW2]; rfl), hk3.output.trans (by rw [← hW2]; rfl), ?_, fun k o hk h1 h2 => ?_, fun k hk => ?_⟩
        · have := hk3.size
          rw [← hW2] at this
          simpa using this
        · by_cases hkL : k = w.heap.size + 1
          · subst hkL
            rw [hla] at hk
            cases hk
            exact World.putObj_heap_same hlt3
          · refine (World.putObj_heap_other hkL).trans (hk3.same k o ?_ h1 (by rw [hb2]; exact h2))
            rw [← hW2]
            exact (World.putObj_heap_other hkL).trans hk
        · rw [boxBlk_putObj (by omega)] at hk
          rcases hk3.new k hk with h | h
          · exact .inl (by rwa [hb2] at h)
          · refine .inr ?_
            rw [← hW2] at h
            simpa using h
      | _ => exact hpost.elim
    · rintro e W' ⟨⟨v, rfl⟩, ⟨hi, hl, hd⟩, hk⟩
      refine ⟨_, _, run_endLoop hl (by rw [hrec]; simp), ?_⟩
      have hp : rec.pending = none := by rw [hrec]
      rw [hp]
      have hlt : w.heap.size + 1 < W'.heap.size := (Array.getElem?_eq_some_iff.1 hl).1
      refine hdone w.heap.size _ (Nat.le_refl _) (hI.loop _ _ _ _ _ (by omega) hl hi) ?_ ((World.putObj_heap_other (by omega)).trans hd)
      have hk2 := hk1.trans hk
      refine ⟨hk2.os, hk2.tape, hk2.output, by simpa using hk2.size, fun k o hk' h1 h2 => ?_, fun k hk' => ?_⟩
      · have := (Array.getElem?_eq_some_iff.1 hk').1
        exact (World.putObj_heap_other (by omega)).trans (hk2.same k o hk' h1 h2)
      · rw [boxBlk_putObj (by omega)] at hk'
        exact hk2.new k hk'

end Go.Proofs.YbulkdyyyFmt
