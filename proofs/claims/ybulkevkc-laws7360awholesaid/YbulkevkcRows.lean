/-
  No cell of these rows narrows 'for every input' (looked for: loops, veiled, ifaces, maps, wideKeys, modest, calm, conditions, laid).
  DERIVED. THE GIVEN ROWS OF THIS SEAT. 3 by the template 'for every input the law returns true; each argument reads behind the call as it read before'; 0 by the template 'total and deterministic' (their statements: YbulkevkcTotals.lean).
  GIVEN WITH THE SEED: the statements are not yours to turn. If you find one false, say at which input.
  Laid BY PROGRAM, IN A SANDBOX (cutbox-rows.mjs): the forced cells as the released guide's own fill.sh prints them over the translation 8ab28e7a4cddc468… (all of the seat's roots in one cut). By AI agents, Wed Nov 11 2026. No macro, syntax, notation, axiom, sorry.
-/
import Derived.Test.YbulkevkcChecked
import GoSem.Claim
import GoSem.ClaimJoined
import GoSem.ClaimMapViews
import Derived.JoinedTies
import Derived.KernelRfl
namespace Go.Proofs.Ybulkevkc
/- THE CELL 'sum', in the pinned program and in every row, IS THE sha256 OF THE DUMP (.gsa) THAT YbulkevkcProg.lean LOADS. Nothing in Lean hashes anything: it is a label: what it is worth is what the hold of that sum in a sandbox is worth. -/
noncomputable def Yba.pinned : Pinned := { name := "ybulkevkc", sum := "8ab28e7a4cddc4681ae2871ba62afd7fa906a638f5134772dffb8926ba134fda", checked := Yba.checked }
namespace Rows
def none {H : Type} : Left H := { results := [], args := [] }

/-- 'pcap.LawS7360AWhole': WHATEVER THE INPUT: true; the input reads as it did. -/
def lawS7360AWholeSpec : ChangeSpec := { name := "lawS7360AWhole", fn := fun _ => fun
  | [d1, d2, d3, d4] => { results := [.lit (.bool true)], args := [d1, d2, d3, d4] }
  | _ => none }
def lawS7360AWholeRow : OpenClaim := { program := "ybulkevkc", sum := "8ab28e7a4cddc4681ae2871ba62afd7fa906a638f5134772dffb8926ba134fda", func := "example.com/hopmark/hopmark/internal/pcap.LawS7360AWhole", spec := "lawS7360AWhole", unfollowed := true, recurses := true, named := ["encoding/binary.LittleEndian", "encoding/binary.BigEndian"], apart := false }
def LawS7360AWholeSaid : Prop := lawS7360AWholeRow.holds Yba.pinned (OpenSpec.ofChange lawS7360AWholeSpec)

/-- ITS FALSE NEIGHBOUR: 'it returns false'. Refute it at one input. -/
def lawS7360AWholeWrong : ChangeSpec := { name := "lawS7360AWhole", fn := fun _ => fun
  | [d1, d2, d3, d4] => { results := [.lit (.bool false)], args := [d1, d2, d3, d4] }
  | _ => none }
def LawS7360AWholeWrongFalsely : Prop := lawS7360AWholeRow.holds Yba.pinned (OpenSpec.ofChange lawS7360AWholeWrong)

/-- 'pcap.LawS7360AOrderCall': WHATEVER THE INPUT: true; the input reads as it did. -/
def lawS7360AOrderCallSpec : ChangeSpec := { name := "lawS7360AOrderCall", fn := fun _ => fun
  | [d1, d2] => { results := [.lit (.bool true)], args := [d1, d2] }
  | _ => none }
def lawS7360AOrderCallRow : OpenClaim := { program := "ybulkevkc", sum := "8ab28e7a4cddc4681ae2871ba62afd7fa906a638f5134772dffb8926ba134fda", func := "example.com/hopmark/hopmark/internal/pcap.LawS7360AOrderCall", spec := "lawS7360AOrderCall", unfollowed := true, recurses := true, apart := false }
def LawS7360AOrderCallSaid : Prop := lawS7360AOrderCallRow.holds Yba.pinned (OpenSpec.ofChange lawS7360AOrderCallSpec)

/-- ITS FALSE NEIGHBOUR: 'it returns false'. Refute it at one input. -/
def lawS7360AOrderCallWrong : ChangeSpec := { name := "lawS7360AOrderCall", fn := fun _ => fun
  | [d1, d2] => { results := [.lit (.bool false)], args := [d1, d2] }
  | _ => none }
def LawS7360AOrderCallWrongFalsely : Prop := lawS7360AOrderCallRow.holds Yba.pinned (OpenSpec.ofChange lawS7360AOrderCallWrong)

/-- 'hopmark.LawS7360CWhole': WHATEVER THE INPUT: true; the input reads as it did. -/
def lawS7360CWholeSpec : ChangeSpec := { name := "lawS7360CWhole", fn := fun _ => fun
  | [d1, d2, d3, d4, d5] => { results := [.lit (.bool true)], args := [d1, d2, d3, d4, d5] }
  | _ => none }
def lawS7360CWholeRow : OpenClaim := { program := "ybulkevkc", sum := "8ab28e7a4cddc4681ae2871ba62afd7fa906a638f5134772dffb8926ba134fda", func := "example.com/hopmark/hopmark.LawS7360CWhole", spec := "lawS7360CWhole", named := ["encoding/binary.BigEndian"], apart := false }
def LawS7360CWholeSaid : Prop := lawS7360CWholeRow.holds Yba.pinned (OpenSpec.ofChange lawS7360CWholeSpec)

/-- ITS FALSE NEIGHBOUR: 'it returns false'. Refute it at one input. -/
def lawS7360CWholeWrong : ChangeSpec := { name := "lawS7360CWhole", fn := fun _ => fun
  | [d1, d2, d3, d4, d5] => { results := [.lit (.bool false)], args := [d1, d2, d3, d4, d5] }
  | _ => none }
def LawS7360CWholeWrongFalsely : Prop := lawS7360CWholeRow.holds Yba.pinned (OpenSpec.ofChange lawS7360CWholeWrong)

end Rows
end Go.Proofs.Ybulkevkc
