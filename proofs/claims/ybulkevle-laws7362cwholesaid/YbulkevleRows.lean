/-
  No cell of these rows narrows 'for every input' (looked for: loops, veiled, ifaces, maps, wideKeys, modest, calm, conditions, laid).
  DERIVED. THE GIVEN ROWS OF THIS SEAT. 1 by the template 'for every input the law returns true; each argument reads behind the call as it read before'; 0 by the template 'total and deterministic' (their statements: YbulkevleTotals.lean).
  GIVEN WITH THE SEED: the statements are not yours to turn. If you find one false, say at which input.
  Laid BY PROGRAM, IN A SANDBOX (cutbox-rows.mjs): the forced cells as the released guide's own fill.sh prints them over the translation b4a8855cd8fa10e9… (all of the seat's roots in one cut). By AI agents, Wed Nov 11 2026. No macro, syntax, notation, axiom, sorry.
-/
import Derived.Test.YbulkevleChecked
import GoSem.Claim
import GoSem.ClaimJoined
import GoSem.ClaimMapViews
import Derived.JoinedTies
import Derived.KernelRfl
namespace Go.Proofs.Ybulkevle
/- THE CELL 'sum', in the pinned program and in every row, IS THE sha256 OF THE DUMP (.gsa) THAT YbulkevleProg.lean LOADS. Nothing in Lean hashes anything: it is a label: what it is worth is what the hold of that sum in a sandbox is worth. -/
noncomputable def Yba.pinned : Pinned := { name := "ybulkevle", sum := "b4a8855cd8fa10e9eb6379b0a5c9e319e81bba4d82a9f09cc83dc0696c65f733", checked := Yba.checked }
namespace Rows
def none {H : Type} : Left H := { results := [], args := [] }

/-- 'sysmon.LawS7362CWhole': WHATEVER THE INPUT: true; the input reads as it did. -/
def lawS7362CWholeSpec : ChangeSpec := { name := "lawS7362CWhole", fn := fun _ => fun
  | [d1, d2, d3, d4] => { results := [.lit (.bool true)], args := [d1, d2, d3, d4] }
  | _ => none }
def lawS7362CWholeRow : OpenClaim := { program := "ybulkevle", sum := "b4a8855cd8fa10e9eb6379b0a5c9e319e81bba4d82a9f09cc83dc0696c65f733", func := "example.com/usher/usher/pkg/sysmon.LawS7362CWhole", spec := "lawS7362CWhole", apart := false }
def LawS7362CWholeSaid : Prop := lawS7362CWholeRow.holds Yba.pinned (OpenSpec.ofChange lawS7362CWholeSpec)

/-- ITS FALSE NEIGHBOUR: 'it returns false'. Refute it at one input. -/
def lawS7362CWholeWrong : ChangeSpec := { name := "lawS7362CWhole", fn := fun _ => fun
  | [d1, d2, d3, d4] => { results := [.lit (.bool false)], args := [d1, d2, d3, d4] }
  | _ => none }
def LawS7362CWholeWrongFalsely : Prop := lawS7362CWholeRow.holds Yba.pinned (OpenSpec.ofChange lawS7362CWholeWrong)

end Rows
end Go.Proofs.Ybulkevle
