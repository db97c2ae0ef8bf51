/-
  NARROWER THAN 'FOR EVERY INPUT', by the rows' own cells (each row's printed sentence says how): LawS0288ANormalForm: laid · LawS0288BShape: laid · LawS0288BChildren: laid · LawS0288BLevelOne: laid.
  DERIVED. THE GIVEN ROWS OF THIS SEAT. 4 by the template 'for every input the law returns true; each argument reads behind the call as it read before'; 0 by the template 'total and deterministic' (their statements: YbulkeycDoorTotals.lean).
  GIVEN WITH THE SEED: the statements are not yours to turn. If you find one false, say at which input.
  Laid BY PROGRAM, IN A SANDBOX (cutbox-rows.mjs): the forced cells as the released guide's own fill.sh prints them over the translation 9acbf34a799ceda4… (all of the seat's roots in one cut). By AI agents, Wed Nov 11 2026. No macro, syntax, notation, axiom, sorry.
-/
import Derived.Test.YbulkeycDoorChecked
import GoSem.Claim
import GoSem.ClaimJoined
import GoSem.ClaimMapViews
import Derived.JoinedTies
import Derived.KernelRfl
namespace Go.Proofs.YbulkeycDoor
/- THE CELL 'sum', in the pinned program and in every row, IS THE sha256 OF THE DUMP (.gsa) THAT YbulkeycDoorProg.lean LOADS. Nothing in Lean hashes anything: it is a label: what it is worth is what the hold of that sum in a sandbox is worth. -/
noncomputable def Ybad.pinned : Pinned := { name := "ybulkeycdoor", sum := "9acbf34a799ceda42b7d6e0b9f718b680a540623e9612b3723f6bbbdd109f2a9", checked := Ybad.checked }
namespace Rows
def none {H : Type} : Left H := { results := [], args := [] }

/- WHAT THE LISTED PACKAGE-LEVEL VARIABLES READ AS WHEN THE CALL BEGINS. Each datum BY PROGRAM (the guide's laid-datum.mjs) off the statement by which the dump's own 'gosem.cut.vars' lays the variable. In a bare row this is a premise. The card (YbulkeycDoorCards.lean) ties it to the program's text. -/
def laid_math_bits_deBruijn64tab {H : Type} : DataW H := .agg [.lit (.int .u8 0), .lit (.int .u8 1), .lit (.int .u8 56), .lit (.int .u8 2), .lit (.int .u8 57), .lit (.int .u8 49), .lit (.int .u8 28), .lit (.int .u8 3), .lit (.int .u8 61), .lit (.int .u8 58), .lit (.int .u8 42), .lit (.int .u8 50), .lit (.int .u8 38), .lit (.int .u8 29), .lit (.int .u8 17), .lit (.int .u8 4), .lit (.int .u8 62), .lit (.int .u8 47), .lit (.int .u8 59), .lit (.int .u8 36), .lit (.int .u8 45), .lit (.int .u8 43), .lit (.int .u8 51), .lit (.int .u8 22), .lit (.int .u8 53), .lit (.int .u8 39), .lit (.int .u8 33), .lit (.int .u8 30), .lit (.int .u8 24), .lit (.int .u8 18), .lit (.int .u8 12), .lit (.int .u8 5), .lit (.int .u8 63), .lit (.int .u8 55), .lit (.int .u8 48), .lit (.int .u8 27), .lit (.int .u8 60), .lit (.int .u8 41), .lit (.int .u8 37), .lit (.int .u8 16), .lit (.int .u8 46), .lit (.int .u8 35), .lit (.int .u8 44), .lit (.int .u8 21), .lit (.int .u8 52), .lit (.int .u8 32), .lit (.int .u8 23), .lit (.int .u8 11), .lit (.int .u8 54), .lit (.int .u8 26), .lit (.int .u8 40), .lit (.int .u8 15), .lit (.int .u8 34), .lit (.int .u8 20), .lit (.int .u8 31), .lit (.int .u8 10), .lit (.int .u8 25), .lit (.int .u8 14), .lit (.int .u8 19), .lit (.int .u8 9), .lit (.int .u8 13), .lit (.int .u8 8), .lit (.int .u8 7), .lit (.int .u8 6)]
def laid_example_com_orbcell_orbcell_posToIJ {H : Type} : DataW H := .agg [.agg [.lit (.int .i64 0), .lit (.int .i64 1), .lit (.int .i64 3), .lit (.int .i64 2)], .agg [.lit (.int .i64 0), .lit (.int .i64 2), .lit (.int .i64 3), .lit (.int .i64 1)], .agg [.lit (.int .i64 3), .lit (.int .i64 2), .lit (.int .i64 0), .lit (.int .i64 1)], .agg [.lit (.int .i64 3), .lit (.int .i64 1), .lit (.int .i64 0), .lit (.int .i64 2)]]
def laid_example_com_orbcell_orbcell_posToOrientation {H : Type} : DataW H := .agg [.lit (.int .i64 1), .lit (.int .i64 0), .lit (.int .i64 0), .lit (.int .i64 3)]

/-- 'orbcell.LawS0288ANormalForm': WHATEVER THE INPUT: true; the input reads as it did. -/
def lawS0288ANormalFormSpec : ChangeSpec := { name := "lawS0288ANormalForm", fn := fun _ => fun
  | [d] => { results := [.lit (.bool true)], args := [d] }
  | _ => none }
def lawS0288ANormalFormRow : OpenClaim := { program := "ybulkeycdoor", sum := "9acbf34a799ceda42b7d6e0b9f718b680a540623e9612b3723f6bbbdd109f2a9", func := "example.com/orbcell/orbcell.LawS0288ANormalForm", spec := "lawS0288ANormalForm", recurses := true, named := ["math/bits.deBruijn64tab"], apart := false, laid := [("math/bits.deBruijn64tab", laid_math_bits_deBruijn64tab)] }
def LawS0288ANormalFormSaid : Prop := lawS0288ANormalFormRow.holds Ybad.pinned (OpenSpec.ofChange lawS0288ANormalFormSpec)

/-- ITS FALSE NEIGHBOUR: 'it returns false'. Refute it at one input. -/
def lawS0288ANormalFormWrong : ChangeSpec := { name := "lawS0288ANormalForm", fn := fun _ => fun
  | [d] => { results := [.lit (.bool false)], args := [d] }
  | _ => none }
def LawS0288ANormalFormWrongFalsely : Prop := lawS0288ANormalFormRow.holds Ybad.pinned (OpenSpec.ofChange lawS0288ANormalFormWrong)

/-- 'orbcell.LawS0288BShape': WHATEVER THE INPUT: true; the input reads as it did. -/
def lawS0288BShapeSpec : ChangeSpec := { name := "lawS0288BShape", vars := ["example.com/orbcell/orbcell.posToIJ", "example.com/orbcell/orbcell.posToOrientation"], fn := fun _ => fun
  | [d1, d2, d3, d4, g1, g2] => { results := [.lit (.bool true)], args := [d1, d2, d3, d4], vars := [g1, g2] }
  | _ => none }
def lawS0288BShapeRow : OpenClaim := { program := "ybulkeycdoor", sum := "9acbf34a799ceda42b7d6e0b9f718b680a540623e9612b3723f6bbbdd109f2a9", func := "example.com/orbcell/orbcell.LawS0288BShape", spec := "lawS0288BShape", named := ["math/bits.deBruijn64tab", "example.com/orbcell/orbcell.posToIJ", "example.com/orbcell/orbcell.posToOrientation"], apart := false, laid := [("math/bits.deBruijn64tab", laid_math_bits_deBruijn64tab), ("example.com/orbcell/orbcell.posToIJ", laid_example_com_orbcell_orbcell_posToIJ), ("example.com/orbcell/orbcell.posToOrientation", laid_example_com_orbcell_orbcell_posToOrientation)] }
def LawS0288BShapeSaid : Prop := lawS0288BShapeRow.holds Ybad.pinned (OpenSpec.ofChange lawS0288BShapeSpec)

/-- ITS FALSE NEIGHBOUR: 'it returns false'. Refute it at one input. -/
def lawS0288BShapeWrong : ChangeSpec := { name := "lawS0288BShape", vars := ["example.com/orbcell/orbcell.posToIJ", "example.com/orbcell/orbcell.posToOrientation"], fn := fun _ => fun
  | [d1, d2, d3, d4, g1, g2] => { results := [.lit (.bool false)], args := [d1, d2, d3, d4], vars := [g1, g2] }
  | _ => none }
def LawS0288BShapeWrongFalsely : Prop := lawS0288BShapeRow.holds Ybad.pinned (OpenSpec.ofChange lawS0288BShapeWrong)

/-- 'orbcell.LawS0288BChildren': WHATEVER THE INPUT: true; the input reads as it did. -/
def lawS0288BChildrenSpec : ChangeSpec := { name := "lawS0288BChildren", vars := ["example.com/orbcell/orbcell.posToIJ", "example.com/orbcell/orbcell.posToOrientation"], fn := fun _ => fun
  | [d1, d2, d3, g1, g2] => { results := [.lit (.bool true)], args := [d1, d2, d3], vars := [g1, g2] }
  | _ => none }
def lawS0288BChildrenRow : OpenClaim := { program := "ybulkeycdoor", sum := "9acbf34a799ceda42b7d6e0b9f718b680a540623e9612b3723f6bbbdd109f2a9", func := "example.com/orbcell/orbcell.LawS0288BChildren", spec := "lawS0288BChildren", named := ["math/bits.deBruijn64tab", "example.com/orbcell/orbcell.posToIJ", "example.com/orbcell/orbcell.posToOrientation"], apart := false, laid := [("math/bits.deBruijn64tab", laid_math_bits_deBruijn64tab), ("example.com/orbcell/orbcell.posToIJ", laid_example_com_orbcell_orbcell_posToIJ), ("example.com/orbcell/orbcell.posToOrientation", laid_example_com_orbcell_orbcell_posToOrientation)] }
def LawS0288BChildrenSaid : Prop := lawS0288BChildrenRow.holds Ybad.pinned (OpenSpec.ofChange lawS0288BChildrenSpec)

/-- ITS FALSE NEIGHBOUR: 'it returns false'. Refute it at one input. -/
def lawS0288BChildrenWrong : ChangeSpec := { name := "lawS0288BChildren", vars := ["example.com/orbcell/orbcell.posToIJ", "example.com/orbcell/orbcell.posToOrientation"], fn := fun _ => fun
  | [d1, d2, d3, g1, g2] => { results := [.lit (.bool false)], args := [d1, d2, d3], vars := [g1, g2] }
  | _ => none }
def LawS0288BChildrenWrongFalsely : Prop := lawS0288BChildrenRow.holds Ybad.pinned (OpenSpec.ofChange lawS0288BChildrenWrong)

/-- 'orbcell.LawS0288BLevelOne': WHATEVER THE INPUT: true; the input reads as it did. -/
def lawS0288BLevelOneSpec : ChangeSpec := { name := "lawS0288BLevelOne", vars := ["example.com/orbcell/orbcell.posToIJ", "example.com/orbcell/orbcell.posToOrientation"], fn := fun _ => fun
  | [d1, d2, g1, g2] => { results := [.lit (.bool true)], args := [d1, d2], vars := [g1, g2] }
  | _ => none }
def lawS0288BLevelOneRow : OpenClaim := { program := "ybulkeycdoor", sum := "9acbf34a799ceda42b7d6e0b9f718b680a540623e9612b3723f6bbbdd109f2a9", func := "example.com/orbcell/orbcell.LawS0288BLevelOne", spec := "lawS0288BLevelOne", named := ["math/bits.deBruijn64tab", "example.com/orbcell/orbcell.posToIJ", "example.com/orbcell/orbcell.posToOrientation"], apart := false, laid := [("math/bits.deBruijn64tab", laid_math_bits_deBruijn64tab), ("example.com/orbcell/orbcell.posToIJ", laid_example_com_orbcell_orbcell_posToIJ), ("example.com/orbcell/orbcell.posToOrientation", laid_example_com_orbcell_orbcell_posToOrientation)] }
def LawS0288BLevelOneSaid : Prop := lawS0288BLevelOneRow.holds Ybad.pinned (OpenSpec.ofChange lawS0288BLevelOneSpec)

/-- ITS FALSE NEIGHBOUR: 'it returns false'. Refute it at one input. -/
def lawS0288BLevelOneWrong : ChangeSpec := { name := "lawS0288BLevelOne", vars := ["example.com/orbcell/orbcell.posToIJ", "example.com/orbcell/orbcell.posToOrientation"], fn := fun _ => fun
  | [d1, d2, g1, g2] => { results := [.lit (.bool false)], args := [d1, d2], vars := [g1, g2] }
  | _ => none }
def LawS0288BLevelOneWrongFalsely : Prop := lawS0288BLevelOneRow.holds Ybad.pinned (OpenSpec.ofChange lawS0288BLevelOneWrong)

end Rows
end Go.Proofs.YbulkeycDoor
