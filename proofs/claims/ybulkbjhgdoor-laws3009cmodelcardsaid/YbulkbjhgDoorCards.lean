/-
  DERIVED. GIVEN WITH THE SEED: THE CARDS: each row of YbulkbjhgDoorRows.lean that lists a variable, with what it lists TIED to the program's text (the seventh form; the later family's looks); each row that meets fmt, with fmt's text TOLD by the authors' own Lean function (tested against real Go, not proved from fmt's source: count such statements apart). THE CARD IS WHAT COUNTS. Prove the row's statement (the work); the ties are given (YbulkbjhgDoorTie.lean); close each card by the builder's one call (the guide's Derived/Test/ToyasCard.lean, 'card_holds'). Laid BY PROGRAM, IN A SANDBOX (cutbox-door.mjs). By AI agents, Wed Nov 11 2026. No macro, syntax, notation, axiom, sorry.
-/
import Derived.Test.YbulkbjhgDoorRows
import GoSem.ClaimSeven
namespace Go.Proofs.YbulkbjhgDoor
namespace Rows

/-- THE TIED CARD OF 'cave.LawS3009AShape'. -/
def lawS3009AShapeCard : Claim7 := { stood := { row := lawS3009AShapeRow, standIns := [], harness := (true, "546e6a04a0cbb0fb3b46f9e360253608aec6e15a63058b0c17a6dd4c63cb8b3f"), looks := false }, kinds := [], alts := [], laidByText := true, laidKinds := [.data], laidTests := true, laidLooks := .later }
def LawS3009AShapeCardSaid : Prop := Claim7.holds Ybad.pinned (.plain (OpenSpec.ofChange lawS3009AShapeSpec)) lawS3009AShapeCard

/-- THE TIED CARD OF 'cave.LawS3009AWalk'. -/
def lawS3009AWalkCard : Claim7 := { stood := { row := lawS3009AWalkRow, standIns := [], harness := (true, "546e6a04a0cbb0fb3b46f9e360253608aec6e15a63058b0c17a6dd4c63cb8b3f"), looks := false }, kinds := [], alts := [], laidByText := true, laidKinds := [.data], laidTests := true, laidLooks := .later }
def LawS3009AWalkCardSaid : Prop := Claim7.holds Ybad.pinned (.plain (OpenSpec.ofChange lawS3009AWalkSpec)) lawS3009AWalkCard

/-- THE TIED CARD OF 'cave.LawS3009CModel'. -/
def lawS3009CModelCard : Claim7 := { stood := { row := lawS3009CModelRow, standIns := [], harness := (true, "546e6a04a0cbb0fb3b46f9e360253608aec6e15a63058b0c17a6dd4c63cb8b3f"), looks := false }, kinds := [], alts := [], laidByText := true, laidKinds := [.data], laidTests := true, laidLooks := .later }
def LawS3009CModelCardSaid : Prop := Claim7.holds Ybad.pinned (.plain (OpenSpec.ofChange lawS3009CModelSpec)) lawS3009CModelCard

/-- THE TIED CARD OF 'cave.LawS3009CRoundTrip'. -/
def lawS3009CRoundTripCard : Claim7 := { stood := { row := lawS3009CRoundTripRow, standIns := [], harness := (true, "546e6a04a0cbb0fb3b46f9e360253608aec6e15a63058b0c17a6dd4c63cb8b3f"), looks := false }, kinds := [], alts := [], laidByText := true, laidKinds := [.data], laidTests := true, laidLooks := .later }
def LawS3009CRoundTripCardSaid : Prop := Claim7.holds Ybad.pinned (.plain (OpenSpec.ofChange lawS3009CRoundTripSpec)) lawS3009CRoundTripCard
end Rows
end Go.Proofs.YbulkbjhgDoor
