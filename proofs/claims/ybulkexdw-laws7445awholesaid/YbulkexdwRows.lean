/-
  No cell of these rows narrows 'for every input' (looked for: loops, veiled, ifaces, maps, wideKeys, modest, calm, conditions, laid).
  DERIVED. THE GIVEN ROWS OF THIS SEAT. 3 by the template 'for every input the law returns true; each argument reads behind the call as it read before'; 0 by the template 'total and deterministic' (their statements: YbulkexdwTotals.lean).
  GIVEN WITH THE SEED: the statements are not yours to turn. If you find one false, say at which input.
  Laid BY PROGRAM, IN A SANDBOX (cutbox-rows.mjs): the forced cells as the released guide's own fill.sh prints them over the translation 7566c9aa216204e5… (all of the seat's roots in one cut). By AI agents, Wed Nov 11 2026. No macro, syntax, notation, axiom, sorry.
-/
import Derived.Test.YbulkexdwChecked
import GoSem.Claim
import GoSem.ClaimJoined
import GoSem.ClaimMapViews
import Derived.JoinedTies
import Derived.KernelRfl
namespace Go.Proofs.Ybulkexdw
/- THE CELL 'sum', in the pinned program and in every row, IS THE sha256 OF THE DUMP (.gsa) THAT YbulkexdwProg.lean LOADS. Nothing in Lean hashes anything: it is a label: what it is worth is what the hold of that sum in a sandbox is worth. -/
noncomputable def Yba.pinned : Pinned := { name := "ybulkexdw", sum := "7566c9aa216204e590ab97df949575e1eb4ad72c19250a5aaef20a4fd1e06b88", checked := Yba.checked }
namespace Rows
def none {H : Type} : Left H := { results := [], args := [] }

/-- 'weakcoin.LawS7445AWhole': WHATEVER THE INPUT: true; the input reads as it did. -/
def lawS7445AWholeSpec : ChangeSpec := { name := "lawS7445AWhole", fn := fun _ => fun
  | [d1, d2, d3] => { results := [.lit (.bool true)], args := [d1, d2, d3] }
  | _ => none }
def lawS7445AWholeRow : OpenClaim := { program := "ybulkexdw", sum := "7566c9aa216204e590ab97df949575e1eb4ad72c19250a5aaef20a4fd1e06b88", func := "example.com/weakcoin/weakcoin.LawS7445AWhole", spec := "lawS7445AWhole", inPlace := ["sync/atomic.LoadInt64"], unfollowed := true, recurses := true, apart := false }
def LawS7445AWholeSaid : Prop := lawS7445AWholeRow.holds Yba.pinned (OpenSpec.ofChange lawS7445AWholeSpec)

/-- ITS FALSE NEIGHBOUR: 'it returns false'. Refute it at one input. -/
def lawS7445AWholeWrong : ChangeSpec := { name := "lawS7445AWhole", fn := fun _ => fun
  | [d1, d2, d3] => { results := [.lit (.bool false)], args := [d1, d2, d3] }
  | _ => none }
def LawS7445AWholeWrongFalsely : Prop := lawS7445AWholeRow.holds Yba.pinned (OpenSpec.ofChange lawS7445AWholeWrong)

/-- 'weakcoin.LawS7445BWhole': WHATEVER THE INPUT: true; the input reads as it did. -/
def lawS7445BWholeSpec : ChangeSpec := { name := "lawS7445BWhole", fn := fun _ => fun
  | [d1, d2, d3, d4, d5, d6, d7] => { results := [.lit (.bool true)], args := [d1, d2, d3, d4, d5, d6, d7] }
  | _ => none }
def lawS7445BWholeRow : OpenClaim := { program := "ybulkexdw", sum := "7566c9aa216204e590ab97df949575e1eb4ad72c19250a5aaef20a4fd1e06b88", func := "example.com/weakcoin/weakcoin.LawS7445BWhole", spec := "lawS7445BWhole", apart := false }
def LawS7445BWholeSaid : Prop := lawS7445BWholeRow.holds Yba.pinned (OpenSpec.ofChange lawS7445BWholeSpec)

/-- ITS FALSE NEIGHBOUR: 'it returns false'. Refute it at one input. -/
def lawS7445BWholeWrong : ChangeSpec := { name := "lawS7445BWhole", fn := fun _ => fun
  | [d1, d2, d3, d4, d5, d6, d7] => { results := [.lit (.bool false)], args := [d1, d2, d3, d4, d5, d6, d7] }
  | _ => none }
def LawS7445BWholeWrongFalsely : Prop := lawS7445BWholeRow.holds Yba.pinned (OpenSpec.ofChange lawS7445BWholeWrong)

/-- 'weakcoin.LawS7445CWhole': WHATEVER THE INPUT: true; the input reads as it did. -/
def lawS7445CWholeSpec : ChangeSpec := { name := "lawS7445CWhole", fn := fun _ => fun
  | [d1, d2, d3, d4, d5, d6, d7] => { results := [.lit (.bool true)], args := [d1, d2, d3, d4, d5, d6, d7] }
  | _ => none }
def lawS7445CWholeRow : OpenClaim := { program := "ybulkexdw", sum := "7566c9aa216204e590ab97df949575e1eb4ad72c19250a5aaef20a4fd1e06b88", func := "example.com/weakcoin/weakcoin.LawS7445CWhole", spec := "lawS7445CWhole", apart := false }
def LawS7445CWholeSaid : Prop := lawS7445CWholeRow.holds Yba.pinned (OpenSpec.ofChange lawS7445CWholeSpec)

/-- ITS FALSE NEIGHBOUR: 'it returns false'. Refute it at one input. -/
def lawS7445CWholeWrong : ChangeSpec := { name := "lawS7445CWhole", fn := fun _ => fun
  | [d1, d2, d3, d4, d5, d6, d7] => { results := [.lit (.bool false)], args := [d1, d2, d3, d4, d5, d6, d7] }
  | _ => none }
def LawS7445CWholeWrongFalsely : Prop := lawS7445CWholeRow.holds Yba.pinned (OpenSpec.ofChange lawS7445CWholeWrong)

end Rows
end Go.Proofs.Ybulkexdw
