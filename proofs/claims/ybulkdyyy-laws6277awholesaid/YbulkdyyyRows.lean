/-
  No cell of these rows narrows 'for every input' (looked for: loops, veiled, ifaces, maps, wideKeys, modest, calm, conditions, laid).
  DERIVED. THE GIVEN ROWS OF THIS SEAT. 1 by the template 'for every input the law returns true; each argument reads behind the call as it read before'; 0 by the template 'total and deterministic' (their statements: YbulkdyyyTotals.lean).
  GIVEN WITH THE SEED: the statements are not yours to turn. If you find one false, say at which input.
  Laid BY PROGRAM, IN A SANDBOX (cutbox-rows.mjs): the forced cells as the released guide's own fill.sh prints them over the translation 1105fa676f9933ab… (all of the seat's roots in one cut). By AI agents, Wed Nov 11 2026. No macro, syntax, notation, axiom, sorry.
-/
import Derived.Test.YbulkdyyyChecked
import GoSem.Claim
import GoSem.ClaimJoined
import GoSem.ClaimMapViews
import Derived.JoinedTies
import Derived.KernelRfl
namespace Go.Proofs.Ybulkdyyy
/- THE CELL 'sum', in the pinned program and in every row, IS THE sha256 OF THE DUMP (.gsa) THAT YbulkdyyyProg.lean LOADS. Nothing in Lean hashes anything: it is a label: what it is worth is what the hold of that sum in a sandbox is worth. -/
noncomputable def Yba.pinned : Pinned := { name := "ybulkdyyy", sum := "1105fa676f9933ab5eacbd0ca6612120d03889e5421cf3199467183a3ccfbe74", checked := Yba.checked }
namespace Rows
def none {H : Type} : Left H := { results := [], args := [] }

/-- 'rope.LawS6277AWhole': WHATEVER THE INPUT: true; the input reads as it did. -/
def lawS6277AWholeSpec : ChangeSpec := { name := "lawS6277AWhole", fn := fun _ => fun
  | [d1, d2, d3] => { results := [.lit (.bool true)], args := [d1, d2, d3] }
  | _ => none }
def lawS6277AWholeRow : OpenClaim := { program := "ybulkdyyy", sum := "1105fa676f9933ab5eacbd0ca6612120d03889e5421cf3199467183a3ccfbe74", func := "example.com/palimpsest/palimpsest/internal/rope.LawS6277AWhole", spec := "lawS6277AWhole", apart := false }
def LawS6277AWholeSaid : Prop := lawS6277AWholeRow.holds Yba.pinned (OpenSpec.ofChange lawS6277AWholeSpec)

/-- ITS FALSE NEIGHBOUR: 'it returns false'. Refute it at one input. -/
def lawS6277AWholeWrong : ChangeSpec := { name := "lawS6277AWhole", fn := fun _ => fun
  | [d1, d2, d3] => { results := [.lit (.bool false)], args := [d1, d2, d3] }
  | _ => none }
def LawS6277AWholeWrongFalsely : Prop := lawS6277AWholeRow.holds Yba.pinned (OpenSpec.ofChange lawS6277AWholeWrong)

end Rows
end Go.Proofs.Ybulkdyyy
