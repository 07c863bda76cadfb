/-
  No cell of these rows narrows 'for every input' (looked for: loops, veiled, ifaces, maps, wideKeys, modest, calm, conditions, laid).
  DERIVED. THE GIVEN ROWS OF THIS SEAT. 2 by the template 'for every input the law returns true; each argument reads behind the call as it read before'; 0 by the template 'total and deterministic' (their statements: YbulkbjhgTotals.lean).
  GIVEN WITH THE SEED: the statements are not yours to turn. If you find one false, say at which input.
  Laid BY PROGRAM, IN A SANDBOX (cutbox-rows.mjs): the forced cells as the released guide's own fill.sh prints them over the translation daf20db3a2329cc9… (all of the seat's roots in one cut). By AI agents, Wed Nov 11 2026. No macro, syntax, notation, axiom, sorry.
-/
import Derived.Test.YbulkbjhgChecked
import GoSem.Claim
import GoSem.ClaimJoined
import GoSem.ClaimMapViews
import Derived.JoinedTies
import Derived.KernelRfl
namespace Go.Proofs.Ybulkbjhg
/- THE CELL 'sum', in the pinned program and in every row, IS THE sha256 OF THE DUMP (.gsa) THAT YbulkbjhgProg.lean LOADS. Nothing in Lean hashes anything: it is a label: what it is worth is what the hold of that sum in a sandbox is worth. -/
noncomputable def Yba.pinned : Pinned := { name := "ybulkbjhg", sum := "daf20db3a2329cc95e2cdb178cdca596135501b386303062aadfebdca8878ef0", checked := Yba.checked }
namespace Rows
def none {H : Type} : Left H := { results := [], args := [] }

/-- 'cave.LawS3009BExact': WHATEVER THE INPUT: true; the input reads as it did. -/
def lawS3009BExactSpec : ChangeSpec := { name := "lawS3009BExact", fn := fun _ => fun
  | [d] => { results := [.lit (.bool true)], args := [d] }
  | _ => none }
def lawS3009BExactRow : OpenClaim := { program := "ybulkbjhg", sum := "daf20db3a2329cc95e2cdb178cdca596135501b386303062aadfebdca8878ef0", func := "example.com/roamkey/roamkey/cave.LawS3009BExact", spec := "lawS3009BExact", named := ["encoding/binary.BigEndian"], apart := false }
def LawS3009BExactSaid : Prop := lawS3009BExactRow.holds Yba.pinned (OpenSpec.ofChange lawS3009BExactSpec)

/-- ITS FALSE NEIGHBOUR: 'it returns false'. Refute it at one input. -/
def lawS3009BExactWrong : ChangeSpec := { name := "lawS3009BExact", fn := fun _ => fun
  | [d] => { results := [.lit (.bool false)], args := [d] }
  | _ => none }
def LawS3009BExactWrongFalsely : Prop := lawS3009BExactRow.holds Yba.pinned (OpenSpec.ofChange lawS3009BExactWrong)

/-- 'cave.LawS3009BDigits': WHATEVER THE INPUT: true; the input reads as it did. -/
def lawS3009BDigitsSpec : ChangeSpec := { name := "lawS3009BDigits", fn := fun _ => fun
  | [d1, d2] => { results := [.lit (.bool true)], args := [d1, d2] }
  | _ => none }
def lawS3009BDigitsRow : OpenClaim := { program := "ybulkbjhg", sum := "daf20db3a2329cc95e2cdb178cdca596135501b386303062aadfebdca8878ef0", func := "example.com/roamkey/roamkey/cave.LawS3009BDigits", spec := "lawS3009BDigits", named := ["encoding/binary.BigEndian"], apart := false }
def LawS3009BDigitsSaid : Prop := lawS3009BDigitsRow.holds Yba.pinned (OpenSpec.ofChange lawS3009BDigitsSpec)

/-- ITS FALSE NEIGHBOUR: 'it returns false'. Refute it at one input. -/
def lawS3009BDigitsWrong : ChangeSpec := { name := "lawS3009BDigits", fn := fun _ => fun
  | [d1, d2] => { results := [.lit (.bool false)], args := [d1, d2] }
  | _ => none }
def LawS3009BDigitsWrongFalsely : Prop := lawS3009BDigitsRow.holds Yba.pinned (OpenSpec.ofChange lawS3009BDigitsWrong)

end Rows
end Go.Proofs.Ybulkbjhg
