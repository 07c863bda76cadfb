/-
  No cell of these rows narrows 'for every input' (looked for: loops, veiled, ifaces, maps, wideKeys, modest, calm, conditions, laid).
  DERIVED. THE GIVEN ROWS OF THIS SEAT. 1 by the template 'for every input the law returns true; each argument reads behind the call as it read before'; 0 by the template 'total and deterministic' (their statements: YbulkbjloTotals.lean).
  GIVEN WITH THE SEED: the statements are not yours to turn. If you find one false, say at which input.
  Laid BY PROGRAM, IN A SANDBOX (cutbox-rows.mjs): the forced cells as the released guide's own fill.sh prints them over the translation c7669d3346c41fca… (all of the seat's roots in one cut). By AI agents, Wed Nov 11 2026. No macro, syntax, notation, axiom, sorry.
-/
import Derived.Test.YbulkbjloChecked
import GoSem.Claim
import GoSem.ClaimJoined
import GoSem.ClaimMapViews
import Derived.JoinedTies
import Derived.KernelRfl
namespace Go.Proofs.Ybulkbjlo
/- THE CELL 'sum', in the pinned program and in every row, IS THE sha256 OF THE DUMP (.gsa) THAT YbulkbjloProg.lean LOADS. Nothing in Lean hashes anything: it is a label: what it is worth is what the hold of that sum in a sandbox is worth. -/
noncomputable def Yba.pinned : Pinned := { name := "ybulkbjlo", sum := "c7669d3346c41fca00ed0ae68bb038d303912cc47693b3195f2bc94dafad4cde", checked := Yba.checked }
namespace Rows
def none {H : Type} : Left H := { results := [], args := [] }

/-- 'ring.LawS3017AModel': WHATEVER THE INPUT: true; the input reads as it did. -/
def lawS3017AModelSpec : ChangeSpec := { name := "lawS3017AModel", fn := fun _ => fun
  | [d1, d2, d3, d4, d5, d6, d7, d8, d9, d10] => { results := [.lit (.bool true)], args := [d1, d2, d3, d4, d5, d6, d7, d8, d9, d10] }
  | _ => none }
def lawS3017AModelRow : OpenClaim := { program := "ybulkbjlo", sum := "c7669d3346c41fca00ed0ae68bb038d303912cc47693b3195f2bc94dafad4cde", func := "example.com/ringlog/ringlog/pkg/ring.LawS3017AModel", spec := "lawS3017AModel", named := ["encoding/binary.LittleEndian"], apart := false }
def LawS3017AModelSaid : Prop := lawS3017AModelRow.holds Yba.pinned (OpenSpec.ofChange lawS3017AModelSpec)

/-- ITS FALSE NEIGHBOUR: 'it returns false'. Refute it at one input. -/
def lawS3017AModelWrong : ChangeSpec := { name := "lawS3017AModel", fn := fun _ => fun
  | [d1, d2, d3, d4, d5, d6, d7, d8, d9, d10] => { results := [.lit (.bool false)], args := [d1, d2, d3, d4, d5, d6, d7, d8, d9, d10] }
  | _ => none }
def LawS3017AModelWrongFalsely : Prop := lawS3017AModelRow.holds Yba.pinned (OpenSpec.ofChange lawS3017AModelWrong)

end Rows
end Go.Proofs.Ybulkbjlo
