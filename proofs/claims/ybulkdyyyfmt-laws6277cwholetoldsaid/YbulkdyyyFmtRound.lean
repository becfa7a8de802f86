/-
  Seat b6277aF: a region that draws and only reads, within a round of a range over a function.
-/
import Derived.Test.YbulkdyyyFmtEach
import Derived.Shelf.RegionOpen
namespace Go.Proofs.YbulkdyyyFmt
open Go.RowKit Go.Shelf
set_option linter.unusedVariables false

theorem wide_fn (f : Nat) : Fence.wide.fn f = True := rfl
theorem wide_depth : Fence.wide.depth.isSome = false := rfl

theorem uponIn_round {l n : Nat} {P : Program} {o : Oper} {a : Act} {next : Act → World → Prop} {Q : Exit → Act → World → Prop} {r : Result Next} (h : o.uponIn Fence.wide n P a next Q r) : o.uponIn (Fence.wide.inRound l) n P a next Q r := by
  exact h

theorem wpOpIn_round {l n : Nat} {P : Program} {ops : Array Oper} {Q : Exit → Act → World → Prop} {i : Nat} {K : Act → World → Prop} {a : Act} {w : World} (hd : ∀ (i : Nat) o, ops[i]? = some o → ∀ c, o.op ≠ .defer c)
    (h : wpOpIn Fence.wide n P ops Q i K a w) : wpOpIn (Fence.wide.inRound l) n P ops Q i K a w := by
  unfold wpOpIn at h ⊢
  cases ho : ops[i]? with
  | none => rw [ho] at h; exact h
  | some o =>
    rw [ho] at h
    dsimp only at h ⊢
    split at h
    · rename_i hw
      rw [if_pos hw]
      refine ⟨fun _ _ => trivial, ?_⟩
      have h2 := h.2
      rw [show Fence.wide.round = none from rfl, Oper.semAt_none] at h2
      rw [show (Fence.wide.inRound l).round = some l from rfl, Oper.semAt_some l _ o (hd i o ho)]
      exact uponIn_round h2
    · rename_i hw
      rw [if_neg hw]
      exact ⟨fun _ _ => trivial, h.2⟩

theorem wpAnyIn_round {lr n : Nat} {P : Program} {md : Region.Mode} {ops : Array Oper} {Q : Exit → Act → World → Prop} (hd : ∀ (i : Nat) o, ops[i]? = some o → ∀ c, o.op ≠ .defer c) :
    ∀ (fuel : Nat) (listed : Array Bool) (a : Act) (w : World), wpAnyIn Fence.wide n P md ops Q fuel listed a w → wpAnyIn (Fence.wide.inRound lr) n P md ops Q fuel listed a w
  | 0, _, _, _, h => h
  | fuel + 1, listed, a, w, h => ⟨h.1, fun i hi => wpOpIn_mono (fun a' w' h' => wpAnyIn_round hd fuel _ a' w' h') (wpOpIn_round hd (h.2 i hi))⟩

def noDefer (ops : Array Oper) : Bool := ops.all fun o => match o.op with | .defer _ => false | _ => true
theorem noDefer_of {ops : Array Oper} (h : noDefer ops = true) : ∀ (i : Nat) o, ops[i]? = some o → ∀ c, o.op ≠ .defer c := fun i o ho c e => by
  have := Array.all_eq_true'.1 h o (Array.mem_of_getElem? ho)
  rw [e] at this
  cases this

/-- A region that draws its order and only reads (up to the worlds of C), within a round. -/
theorem region_quiet_round {lr n : Nat} {P : Program} {id : Nat} {Q : Exit → Act → World → Prop} {a : Act} {w : World} {ops : List Oper} {C : World → Prop} (hd : noDefer ops.toArray = true) (hm : P.follows .mixedOrders = true) (hB : Region.lexB .any ops.toArray = true) (hC : C { w with drawn := w.drawn + 1 })
    (h : wpQuietIn Fence.wide n P ops.toArray C (fun a' => ∀ w', C w' → Q .normal a' w') ops a) : (Code.region id ops.toArray true).wpIn (Fence.wide.inRound lr) n P Q a w := by
  simp only [Region.lexB, Bool.and_eq_true] at hB
  refine wpIn_region_any hm (wpAnyIn_round (noDefer_of hd) _ _ _ _ (wpAnyIn_of_quiet (Q := fun a' => ∀ w', C w' → Q .normal a' w') rfl (fun _ w' hw' h => h w' hw') _ _ _ _ hC ?_))
  have := wpAnyQIn_lex (F := Fence.wide) (n := n) (C := C) (md := .any) hB.1 ops 0 (Array.replicate ops.toArray.size false) a (by simp) (by simpa using hB.2) h
  simpa using this

end Go.Proofs.YbulkdyyyFmt
