/-
  No cell of these rows narrows 'for every input' (looked for: loops, veiled, ifaces, maps, wideKeys, modest, calm, conditions, laid).
  DERIVED. THE GIVEN ROWS OF THIS SEAT. 1 by the template 'for every input the law returns true; each argument reads behind the call as it read before'; 0 by the template 'total and deterministic' (their statements: YbulkdywgTotals.lean).
  GIVEN WITH THE SEED: the statements are not yours to turn. If you find one false, say at which input.
  Laid BY PROGRAM, IN A SANDBOX (cutbox-rows.mjs): the forced cells as the released guide's own fill.sh prints them over the translation bffd4eb5839b9bb4… (all of the seat's roots in one cut). By AI agents, Wed Nov 11 2026. No macro, syntax, notation, axiom, sorry.
-/
import Derived.Test.YbulkdywgChecked
import GoSem.Claim
import GoSem.ClaimJoined
import GoSem.ClaimMapViews
import Derived.JoinedTies
import Derived.KernelRfl
namespace Go.Proofs.Ybulkdywg
/- THE CELL 'sum', in the pinned program and in every row, IS THE sha256 OF THE DUMP (.gsa) THAT YbulkdywgProg.lean LOADS. Nothing in Lean hashes anything: it is a label: what it is worth is what the hold of that sum in a sandbox is worth. -/
noncomputable def Yba.pinned : Pinned := { name := "ybulkdywg", sum := "bffd4eb5839b9bb438de700cb322e672076eea132c1e5050e39ac46885471fd6", checked := Yba.checked }
namespace Rows
def none {H : Type} : Left H := { results := [], args := [] }

/-- 'protocol.LawS6272AWhole': WHATEVER THE INPUT: true; the input reads as it did. -/
def lawS6272AWholeSpec : ChangeSpec := { name := "lawS6272AWhole", fn := fun _ => fun
  | [d1, d2, d3, d4] => { results := [.lit (.bool true)], args := [d1, d2, d3, d4] }
  | _ => none }
def lawS6272AWholeRow : OpenClaim := { program := "ybulkdywg", sum := "bffd4eb5839b9bb438de700cb322e672076eea132c1e5050e39ac46885471fd6", func := "example.com/redoubt/redoubt/internal/protocol.LawS6272AWhole", spec := "lawS6272AWhole", unfollowed := true, recurses := true, plainKeys := false, apart := false }
def LawS6272AWholeSaid : Prop := lawS6272AWholeRow.holds Yba.pinned (OpenSpec.ofChange lawS6272AWholeSpec)

/-- ITS FALSE NEIGHBOUR: 'it returns false'. Refute it at one input. -/
def lawS6272AWholeWrong : ChangeSpec := { name := "lawS6272AWhole", fn := fun _ => fun
  | [d1, d2, d3, d4] => { results := [.lit (.bool false)], args := [d1, d2, d3, d4] }
  | _ => none }
def LawS6272AWholeWrongFalsely : Prop := lawS6272AWholeRow.holds Yba.pinned (OpenSpec.ofChange lawS6272AWholeWrong)

end Rows
end Go.Proofs.Ybulkdywg
