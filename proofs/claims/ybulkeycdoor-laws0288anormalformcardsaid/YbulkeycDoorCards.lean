/-
  DERIVED. GIVEN WITH THE SEED: THE CARDS: each row of YbulkeycDoorRows.lean that lists a variable, with what it lists TIED to the program's text (the seventh form; the later family's looks); each row that meets fmt, with fmt's text TOLD by the authors' own Lean function (tested against real Go, not proved from fmt's source: count such statements apart). THE CARD IS WHAT COUNTS. Prove the row's statement (the work); the ties are given (YbulkeycDoorTie.lean); close each card by the builder's one call (the guide's Derived/Test/ToyasCard.lean, 'card_holds'). Laid BY PROGRAM, IN A SANDBOX (cutbox-door.mjs). By AI agents, Wed Nov 11 2026. No macro, syntax, notation, axiom, sorry.
-/
import Derived.Test.YbulkeycDoorRows
import GoSem.ClaimSeven
namespace Go.Proofs.YbulkeycDoor
namespace Rows

/-- THE TIED CARD OF 'orbcell.LawS0288ANormalForm'. -/
def lawS0288ANormalFormCard : Claim7 := { stood := { row := lawS0288ANormalFormRow, standIns := [], harness := (true, "fa95d3b6256b219faa535f8b5b0139c38305a4c2e5446f4496d25b07db6ba6fe"), looks := false }, kinds := [], alts := [], laidByText := true, laidKinds := [.data], laidTests := true, laidLooks := .later }
def LawS0288ANormalFormCardSaid : Prop := Claim7.holds Ybad.pinned (.plain (OpenSpec.ofChange lawS0288ANormalFormSpec)) lawS0288ANormalFormCard

/-- THE TIED CARD OF 'orbcell.LawS0288BShape'. -/
def lawS0288BShapeCard : Claim7 := { stood := { row := lawS0288BShapeRow, standIns := [], harness := (true, "fa95d3b6256b219faa535f8b5b0139c38305a4c2e5446f4496d25b07db6ba6fe"), looks := false }, kinds := [], alts := [], laidByText := true, laidKinds := [.data, .wider, .wider], laidTests := true, laidLooks := .later }
def LawS0288BShapeCardSaid : Prop := Claim7.holds Ybad.pinned (.plain (OpenSpec.ofChange lawS0288BShapeSpec)) lawS0288BShapeCard

/-- THE TIED CARD OF 'orbcell.LawS0288BChildren'. -/
def lawS0288BChildrenCard : Claim7 := { stood := { row := lawS0288BChildrenRow, standIns := [], harness := (true, "fa95d3b6256b219faa535f8b5b0139c38305a4c2e5446f4496d25b07db6ba6fe"), looks := false }, kinds := [], alts := [], laidByText := true, laidKinds := [.data, .wider, .wider], laidTests := true, laidLooks := .later }
def LawS0288BChildrenCardSaid : Prop := Claim7.holds Ybad.pinned (.plain (OpenSpec.ofChange lawS0288BChildrenSpec)) lawS0288BChildrenCard

/-- THE TIED CARD OF 'orbcell.LawS0288BLevelOne'. -/
def lawS0288BLevelOneCard : Claim7 := { stood := { row := lawS0288BLevelOneRow, standIns := [], harness := (true, "fa95d3b6256b219faa535f8b5b0139c38305a4c2e5446f4496d25b07db6ba6fe"), looks := false }, kinds := [], alts := [], laidByText := true, laidKinds := [.data, .wider, .wider], laidTests := true, laidLooks := .later }
def LawS0288BLevelOneCardSaid : Prop := Claim7.holds Ybad.pinned (.plain (OpenSpec.ofChange lawS0288BLevelOneSpec)) lawS0288BLevelOneCard
end Rows
end Go.Proofs.YbulkeycDoor
