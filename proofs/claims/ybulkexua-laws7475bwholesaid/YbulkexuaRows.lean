/-
  No cell of these rows narrows 'for every input' (looked for: loops, veiled, ifaces, maps, wideKeys, modest, calm, conditions, laid).
  DERIVED. THE GIVEN ROWS OF THIS SEAT. 1 by the template 'for every input the law returns true; each argument reads behind the call as it read before'; 0 by the template 'total and deterministic' (their statements: YbulkexuaTotals.lean).
  GIVEN WITH THE SEED: the statements are not yours to turn. If you find one false, say at which input.
  Laid BY PROGRAM, IN A SANDBOX (cutbox-rows.mjs): the forced cells as the released guide's own fill.sh prints them over the translation 48146463af8c9b10… (all of the seat's roots in one cut). By AI agents, Wed Nov 11 2026. No macro, syntax, notation, axiom, sorry.
-/
import Derived.Test.YbulkexuaChecked
import GoSem.Claim
import GoSem.ClaimJoined
import GoSem.ClaimMapViews
import Derived.JoinedTies
import Derived.KernelRfl
namespace Go.Proofs.Ybulkexua
/- THE CELL 'sum', in the pinned program and in every row, IS THE sha256 OF THE DUMP (.gsa) THAT YbulkexuaProg.lean LOADS. Nothing in Lean hashes anything: it is a label: what it is worth is what the hold of that sum in a sandbox is worth. -/
noncomputable def Yba.pinned : Pinned := { name := "ybulkexua", sum := "48146463af8c9b1054801b514f4370d623f9a05fe34d31b9fd1d9dfbece0e741", checked := Yba.checked }
namespace Rows
def none {H : Type} : Left H := { results := [], args := [] }

/-- 'lp.LawS7475BWhole': WHATEVER THE INPUT: true; the input reads as it did. -/
def lawS7475BWholeSpec : ChangeSpec := { name := "lawS7475BWhole", fn := fun _ => fun
  | [d1, d2, d3, d4, d5, d6] => { results := [.lit (.bool true)], args := [d1, d2, d3, d4, d5, d6] }
  | _ => none }
def lawS7475BWholeRow : OpenClaim := { program := "ybulkexua", sum := "48146463af8c9b1054801b514f4370d623f9a05fe34d31b9fd1d9dfbece0e741", func := "example.com/ringsieve/ringsieve/internal/lp.LawS7475BWhole", spec := "lawS7475BWhole", inPlace := ["math.Float64bits"], apart := false }
def LawS7475BWholeSaid : Prop := lawS7475BWholeRow.holds Yba.pinned (OpenSpec.ofChange lawS7475BWholeSpec)

/-- ITS FALSE NEIGHBOUR: 'it returns false'. Refute it at one input. -/
def lawS7475BWholeWrong : ChangeSpec := { name := "lawS7475BWhole", fn := fun _ => fun
  | [d1, d2, d3, d4, d5, d6] => { results := [.lit (.bool false)], args := [d1, d2, d3, d4, d5, d6] }
  | _ => none }
def LawS7475BWholeWrongFalsely : Prop := lawS7475BWholeRow.holds Yba.pinned (OpenSpec.ofChange lawS7475BWholeWrong)

end Rows
end Go.Proofs.Ybulkexua
