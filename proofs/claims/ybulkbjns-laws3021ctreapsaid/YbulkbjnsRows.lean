/-
  No cell of these rows narrows 'for every input' (looked for: loops, veiled, ifaces, maps, wideKeys, modest, calm, conditions, laid).
  DERIVED. THE GIVEN ROWS OF THIS SEAT. 3 by the template 'for every input the law returns true; each argument reads behind the call as it read before'; 0 by the template 'total and deterministic' (their statements: YbulkbjnsTotals.lean).
  GIVEN WITH THE SEED: the statements are not yours to turn. If you find one false, say at which input.
  Laid BY PROGRAM, IN A SANDBOX (cutbox-rows.mjs): the forced cells as the released guide's own fill.sh prints them over the translation 753a82ca334ed4a5… (all of the seat's roots in one cut). By AI agents, Wed Nov 11 2026. No macro, syntax, notation, axiom, sorry.
-/
import Derived.Test.YbulkbjnsChecked
import GoSem.Claim
import GoSem.ClaimJoined
import GoSem.ClaimMapViews
import Derived.JoinedTies
import Derived.KernelRfl
namespace Go.Proofs.Ybulkbjns
/- THE CELL 'sum', in the pinned program and in every row, IS THE sha256 OF THE DUMP (.gsa) THAT YbulkbjnsProg.lean LOADS. Nothing in Lean hashes anything: it is a label: what it is worth is what the hold of that sum in a sandbox is worth. -/
noncomputable def Yba.pinned : Pinned := { name := "ybulkbjns", sum := "753a82ca334ed4a5af40601a288a46ffb2cdcbb18635945759af1790d51c786c", checked := Yba.checked }
namespace Rows
def none {H : Type} : Left H := { results := [], args := [] }

/-- 'blockmap.LawS3021AModel': WHATEVER THE INPUT: true; the input reads as it did. -/
def lawS3021AModelSpec : ChangeSpec := { name := "lawS3021AModel", fn := fun _ => fun
  | [d1, d2] => { results := [.lit (.bool true)], args := [d1, d2] }
  | _ => none }
def lawS3021AModelRow : OpenClaim := { program := "ybulkbjns", sum := "753a82ca334ed4a5af40601a288a46ffb2cdcbb18635945759af1790d51c786c", func := "example.com/lockwright/lockwright/internal/blockmap.LawS3021AModel", spec := "lawS3021AModel", plainKeys := false, apart := false }
def LawS3021AModelSaid : Prop := lawS3021AModelRow.holds Yba.pinned (OpenSpec.ofChange lawS3021AModelSpec)

/-- ITS FALSE NEIGHBOUR: 'it returns false'. Refute it at one input. -/
def lawS3021AModelWrong : ChangeSpec := { name := "lawS3021AModel", fn := fun _ => fun
  | [d1, d2] => { results := [.lit (.bool false)], args := [d1, d2] }
  | _ => none }
def LawS3021AModelWrongFalsely : Prop := lawS3021AModelRow.holds Yba.pinned (OpenSpec.ofChange lawS3021AModelWrong)

/-- 'blockmap.LawS3021ABuilt': WHATEVER THE INPUT: true; the input reads as it did. -/
def lawS3021ABuiltSpec : ChangeSpec := { name := "lawS3021ABuilt", fn := fun _ => fun
  | [d1, d2] => { results := [.lit (.bool true)], args := [d1, d2] }
  | _ => none }
def lawS3021ABuiltRow : OpenClaim := { program := "ybulkbjns", sum := "753a82ca334ed4a5af40601a288a46ffb2cdcbb18635945759af1790d51c786c", func := "example.com/lockwright/lockwright/internal/blockmap.LawS3021ABuilt", spec := "lawS3021ABuilt", plainKeys := false, apart := false }
def LawS3021ABuiltSaid : Prop := lawS3021ABuiltRow.holds Yba.pinned (OpenSpec.ofChange lawS3021ABuiltSpec)

/-- ITS FALSE NEIGHBOUR: 'it returns false'. Refute it at one input. -/
def lawS3021ABuiltWrong : ChangeSpec := { name := "lawS3021ABuilt", fn := fun _ => fun
  | [d1, d2] => { results := [.lit (.bool false)], args := [d1, d2] }
  | _ => none }
def LawS3021ABuiltWrongFalsely : Prop := lawS3021ABuiltRow.holds Yba.pinned (OpenSpec.ofChange lawS3021ABuiltWrong)

/-- 'locktable.LawS3021CTreap': WHATEVER THE INPUT: true; the input reads as it did. -/
def lawS3021CTreapSpec : ChangeSpec := { name := "lawS3021CTreap", fn := fun _ => fun
  | [d1, d2] => { results := [.lit (.bool true)], args := [d1, d2] }
  | _ => none }
def lawS3021CTreapRow : OpenClaim := { program := "ybulkbjns", sum := "753a82ca334ed4a5af40601a288a46ffb2cdcbb18635945759af1790d51c786c", func := "example.com/lockwright/lockwright/internal/locktable.LawS3021CTreap", spec := "lawS3021CTreap", recurses := true, plainKeys := false, apart := false }
def LawS3021CTreapSaid : Prop := lawS3021CTreapRow.holds Yba.pinned (OpenSpec.ofChange lawS3021CTreapSpec)

/-- ITS FALSE NEIGHBOUR: 'it returns false'. Refute it at one input. -/
def lawS3021CTreapWrong : ChangeSpec := { name := "lawS3021CTreap", fn := fun _ => fun
  | [d1, d2] => { results := [.lit (.bool false)], args := [d1, d2] }
  | _ => none }
def LawS3021CTreapWrongFalsely : Prop := lawS3021CTreapRow.holds Yba.pinned (OpenSpec.ofChange lawS3021CTreapWrong)

end Rows
end Go.Proofs.Ybulkbjns
